import JvmDerived
import JvmDerived.Pilot.@@N@@Statement
import JvmDerived.Pilot.@@N@@Code
set_option linter.unusedVariables false
set_option linter.unusedSimpArgs false
namespace Jvm.RoadKit
open Sem ClassFile Op Lib Jvm.Stand Jvm.Free Jvm.LawKit
section New
variable {p : Program} {l : Launch} {e : Env} {R : Room} {s : State} {m : MethodId} {args : Array Value} {below : List Frame} {meth : Method} {c : Code} {T : State} {locs : List Loc} {cells slots : Nat}
theorem retI (X : Stand p l e R s m args below meth c T locs cells slots) (hx : p.tables.exec = Jvm.exec) {pc : Nat} {Ls : Array Slot} {z : Int32} {rest : List Value} (hret : meth.sig.returnType = some .int) (hd : decode c.code pc = .ok (.ireturn, 1)) {fs : List Frame}
    (hl : ∀ (f : JFrame) (acts : List Action), f.method = m → f.locked = none → f.entered = [] → (doReturn e (T.setTop f) acts (some (.int z))).1 = T.setFrames fs) : Steps p.tables e below (T.setTop (mkF m pc Ls (.int z :: rest))) (T.setFrames fs) := by
  have hm' : T.vm.method? m = some meth := X.method'
  have hn : narrow .int (.int z) = .int z := rfl
  show Steps p.tables e below (T.setTop { method := m, pc := pc, locals := Ls, stack := _ :: rest, locked := none }) _
  jvm_step X.here [X.here.top, hx, hd, hm', hret, hn]
  first | (intro acts; rw [hl _ acts rfl rfl rfl]) | rw [hl _ _ rfl rfl rfl]
  exact Steps.refl _
end New
end Jvm.RoadKit
namespace Jvm.Pilot.@@N@@
open Jvm Jvm.ClassFile Sem Op Lib Jvm.Free Jvm.Stand Jvm.LawKit Jvm.RoadKit Bundle Jvm.Pilot.@@N@@.Jvm.D
theorem ow {Z : State} {a0 : Array Value} (hw : ∀ d ∈ tables_1, d.before a0 Z = true) (i : Nat) {d : Jvm.Cond} (h : tables_1[i]? = some d) : d.before a0 Z = true := hw _ (List.mem_of_getElem? h)
def own_b (P : Prop) [Decidable P] : Int32 := if P then 1 else 0
theorem own_b_t {P : Prop} [Decidable P] (h : P) : own_b P = 1 := if_pos h
theorem own_b_f {P : Prop} [Decidable P] (h : ¬ P) : own_b P = 0 := if_neg h
theorem own_b_nz {P : Prop} [Decidable P] (h : P) : ¬ (own_b P = (0 : Int32)) := by rw [own_b_t h]; decide
theorem own_b_nar (P : Prop) [Decidable P] : nar .boolean (own_b P) = own_b P := by
  by_cases h : P
  · rw [own_b_t h]; rfl
  · rw [own_b_f h]; rfl
theorem own_sel {Z s : State} {a0 args : Array Value} {y : MethodName} {n : Nat} (hZ : Z.Warmed39 s.vm) (wi : (Jvm.Cond.instantiable y.cls n).before a0 Z = true) (wp : (Jvm.Cond.privateMethod y).before a0 Z = true) (wm : (Jvm.Cond.instanceMethod y).before a0 Z = true) (hy : y.cls ≠ "java/lang/invoke/MethodHandle" ∧ y.cls ≠ "java/lang/invoke/VarHandle") : (Jvm.Cond.selects y.cls y y).before args s = true := by
  have wi' : (Jvm.Cond.instantiable y.cls n).before args s = true := mvT hZ wi
  obtain ⟨c, k, h1, h2, h3, h4, -⟩ := Cond.instantiable_spec wi'
  have h5 : k.isInterface = false := by
    cases hq : k.isInterface with
    | false => rfl
    | true => rw [hq] at h4; simp at h4
  exact Jvm.Stand.selects_self_of_private h1 h2 h5 (Cond.privateMethod_at (mvP hZ wp (args := args))) (mvT hZ wm) hy
theorem own_nf {s : State} {args : Array Value} {C : String} {y y' : MethodName} (w : (Jvm.Cond.selects C y' y').before args s = true) (e : y'.cls = y.cls) : NotFace s y := fun r0 h0 => by
  obtain ⟨c2, r2, m2, q1, q2, q3, q4, kP, hkP, hkPi⟩ := Cond.selects_spec w
  have h1 := findClass_of_methodNamed h0
  have h2 := findClass_of_methodNamed q3
  rw [e] at h2
  have h3 := Option.some.inj (h1.symm.trans h2)
  exact ⟨kP, by rw [h3]; exact hkP, hkPi⟩
theorem own_selN {Z s : State} {a0 args : Array Value} {y : MethodName} (hZ : Z.Warmed39 s.vm) (nf : NotFace s y) (wp : (Jvm.Cond.privateMethod y).before a0 Z = true) (wm : (Jvm.Cond.instanceMethod y).before a0 Z = true) (hy : y.cls ≠ "java/lang/invoke/MethodHandle" ∧ y.cls ≠ "java/lang/invoke/VarHandle") : (Jvm.Cond.selects y.cls y y).before args s = true := by
  have wm' : (Jvm.Cond.instanceMethod y).before args s = true := mvT hZ wm
  obtain ⟨mk, methM, hnamed, -⟩ := Cond.instanceMethod_spec wm'
  obtain ⟨k, hk, hki⟩ := nf mk hnamed
  exact Jvm.Stand.selects_self_of_private (findClass_of_methodNamed hnamed) hk hki (Cond.privateMethod_at (mvP hZ wp (args := args))) wm' hy
theorem own_b01 (P : Prop) [Decidable P] : own_b P = (0 : Int32) ∨ own_b P = (1 : Int32) := by
  by_cases h : P
  · exact Or.inr (own_b_t h)
  · exact Or.inl (own_b_f h)
theorem own_b_iff {P : Prop} [Decidable P] : own_b P = (0 : Int32) ↔ ¬ P := ⟨fun q h => own_b_nz h q, own_b_f⟩
abbrev oU : String := "com/example/hash4/hash4/canonical/CanonicalUrl"
abbrev oA : String := "java/lang/AbstractStringBuilder"
abbrev oB : String := "java/lang/StringBuilder"
abbrev oS : String := "java/lang/String"
abbrev o6 : String := "java/lang/StringUTF16"
abbrev oL : String := "com/example/hash4/hash4/canonical/CanonicalUrlToStringPinLaw"
abbrev oi (z : Int32) : Slot := .val (.int z)
abbrev oa (a : Addr) : Slot := .val (.ref a)
abbrev own_P (p : Program) (e : Env) (below : List Frame) (a b : State) : Prop := ∀ tZ, Steps p.tables e below a tZ → Steps p.tables e below b tZ
theorem own_pre {p : Program} {e : Env} {below : List Frame} {s₁ : State} {m : MethodId} {A : Array Value} {k : Nat} {F : JFrame} (h : entryFrame m A k = F) : own_P p e below (s₁.setTop F) (s₁.setTop (entryFrame m A k)) := fun tZ kZ => castTop h kZ
theorem own_nb {x b n : Nat} (l : x < n) (g : b = n) : x ≠ b := Nat.ne_of_lt (Nat.lt_of_lt_of_le l (Nat.le_of_eq g.symm))
theorem own_nc {x b n : Nat} (l : x < n) (g : n ≤ b) : x ≠ b := Nat.ne_of_lt (Nat.lt_of_lt_of_le l g)
abbrev oM0 : MethodName := (⟨"java/lang/StringLatin1", "canEncode", "(C)Z"⟩ : MethodName)
abbrev oM1 : MethodName := (⟨"java/lang/StringUTF16", "length", "([B)I"⟩ : MethodName)
abbrev oM2 : MethodName := (⟨"jdk/internal/util/Preconditions", "checkIndex", "(IILjava/util/function/BiFunction;)I"⟩ : MethodName)
abbrev oM3 : MethodName := (⟨"java/lang/String", "checkIndex", "(II)V"⟩ : MethodName)
abbrev oM4 : MethodName := (⟨"jdk/internal/util/Preconditions", "checkFromIndexSize", "(IIILjava/util/function/BiFunction;)I"⟩ : MethodName)
abbrev oM5 : MethodName := (⟨"java/lang/String", "checkBoundsOffCount", "(III)I"⟩ : MethodName)
abbrev oM6 : MethodName := (⟨"java/lang/StringUTF16", "checkBoundsOffCount", "(II[B)V"⟩ : MethodName)
abbrev oM7 : MethodName := (⟨"java/lang/StringUTF16", "checkIndex", "(I[B)V"⟩ : MethodName)
abbrev oM8 : MethodName := (⟨"java/lang/StringUTF16", "putChar", "([BII)V"⟩ : MethodName)
abbrev oM9 : MethodName := (⟨"java/lang/StringUTF16", "getChar", "([BI)C"⟩ : MethodName)
abbrev oM10 : MethodName := (⟨"java/lang/StringUTF16", "charAt", "([BI)C"⟩ : MethodName)
abbrev oM11 : MethodName := (⟨"java/lang/StringLatin1", "charAt", "([BI)C"⟩ : MethodName)
abbrev oM12 : MethodName := (⟨"java/lang/String", "isLatin1", "()Z"⟩ : MethodName)
abbrev oM13 : MethodName := (⟨"java/lang/String", "coder", "()B"⟩ : MethodName)
abbrev oM14 : MethodName := (⟨"java/lang/String", "length", "()I"⟩ : MethodName)
abbrev oM15 : MethodName := (⟨"java/lang/String", "charAt", "(I)C"⟩ : MethodName)
abbrev oM16 : MethodName := (⟨"java/lang/StringLatin1", "toBytes", "(C)[B"⟩ : MethodName)
abbrev oM17 : MethodName := (⟨"java/lang/StringUTF16", "toBytes", "(C)[B"⟩ : MethodName)
abbrev oM18 : MethodName := (⟨"java/lang/StringUTF16", "newBytesLength", "(I)I"⟩ : MethodName)
abbrev oM19 : MethodName := (⟨"java/lang/StringUTF16", "newBytesFor", "(I)[B"⟩ : MethodName)
abbrev oM20 : MethodName := (⟨"java/lang/StringUTF16", "toBytes", "([CII)[B"⟩ : MethodName)
abbrev oM21 : MethodName := (⟨"java/lang/StringUTF16", "compress", "([CI[BII)I"⟩ : MethodName)
abbrev oM22 : MethodName := (⟨"java/lang/StringUTF16", "compress", "([CII)[B"⟩ : MethodName)
abbrev oM23 : MethodName := (⟨"java/lang/StringUTF16", "coderFromArrayLen", "([BI)B"⟩ : MethodName)
abbrev oM24 : MethodName := (⟨"java/lang/String", "<init>", "([BB)V"⟩ : MethodName)
abbrev oM25 : MethodName := (⟨"java/lang/String", "valueOf", "(C)Ljava/lang/String;"⟩ : MethodName)
abbrev oM26 : MethodName := (⟨"java/lang/String", "<init>", "([CIILjava/lang/Void;)V"⟩ : MethodName)
abbrev oM27 : MethodName := (⟨"java/lang/String", "<init>", "([C)V"⟩ : MethodName)
abbrev oM28 : MethodName := (⟨"java/lang/AbstractStringBuilder", "<init>", "(I)V"⟩ : MethodName)
abbrev oM29 : MethodName := (⟨"java/lang/StringBuilder", "<init>", "()V"⟩ : MethodName)
abbrev oM30 : MethodName := (⟨"java/lang/AbstractStringBuilder", "isLatin1", "()Z"⟩ : MethodName)
abbrev oM31 : MethodName := (⟨"java/lang/AbstractStringBuilder", "ensureCapacityInternal", "(I)V"⟩ : MethodName)
abbrev oM32 : MethodName := (⟨"java/lang/StringUTF16", "inflate", "([BI[BII)V"⟩ : MethodName)
abbrev oM33 : MethodName := (⟨"java/lang/StringLatin1", "inflate", "([BI[BII)V"⟩ : MethodName)
abbrev oM34 : MethodName := (⟨"java/lang/AbstractStringBuilder", "inflate", "()V"⟩ : MethodName)
abbrev oM35 : MethodName := (⟨"java/lang/AbstractStringBuilder", "inflateIfNeededFor", "(Ljava/lang/String;)V"⟩ : MethodName)
abbrev oM36 : MethodName := (⟨"java/lang/String", "getBytes", "([BIB)V"⟩ : MethodName)
abbrev oM37 : MethodName := (⟨"java/lang/AbstractStringBuilder", "putStringAt", "(ILjava/lang/String;)V"⟩ : MethodName)
abbrev oM38 : MethodName := (⟨"java/lang/AbstractStringBuilder", "append", "(Ljava/lang/String;)Ljava/lang/AbstractStringBuilder;"⟩ : MethodName)
abbrev oM39 : MethodName := (⟨"java/lang/StringBuilder", "append", "(Ljava/lang/String;)Ljava/lang/StringBuilder;"⟩ : MethodName)
abbrev oM40 : MethodName := (⟨"java/lang/AbstractStringBuilder", "getValue", "()[B"⟩ : MethodName)
abbrev oM41 : MethodName := (⟨"java/lang/AbstractStringBuilder", "length", "()I"⟩ : MethodName)
abbrev oM42 : MethodName := (⟨"java/lang/StringBuilder", "length", "()I"⟩ : MethodName)
abbrev oM43 : MethodName := (⟨"java/util/Arrays", "checkLength", "(II)V"⟩ : MethodName)
abbrev oM44 : MethodName := (⟨"java/lang/Math", "min", "(II)I"⟩ : MethodName)
abbrev oM45 : MethodName := (⟨"java/util/Arrays", "copyOfRangeByte", "([BII)[B"⟩ : MethodName)
abbrev oM46 : MethodName := (⟨"java/util/Arrays", "copyOfRange", "([BII)[B"⟩ : MethodName)
abbrev oM47 : MethodName := (⟨"java/lang/String", "<init>", "(Ljava/lang/AbstractStringBuilder;Ljava/lang/Void;)V"⟩ : MethodName)
abbrev oM48 : MethodName := (⟨"java/lang/String", "<init>", "(Ljava/lang/StringBuilder;)V"⟩ : MethodName)
abbrev oM49 : MethodName := (⟨"java/lang/StringBuilder", "toString", "()Ljava/lang/String;"⟩ : MethodName)
abbrev oM50 : MethodName := (⟨"com/example/hash4/hash4/canonical/CanonicalUrl", "<init>", "(Ljava/lang/String;Ljava/lang/String;ZLjava/lang/String;Ljava/lang/String;)V"⟩ : MethodName)
abbrev oM51 : MethodName := (⟨"com/example/hash4/hash4/canonical/CanonicalUrl", "toString", "()Ljava/lang/String;"⟩ : MethodName)
abbrev oM52 : MethodName := (⟨"com/example/hash4/hash4/canonical/CanonicalUrlToStringPinLaw", "at", "(Ljava/lang/String;[CII)Z"⟩ : MethodName)
abbrev zc0 := jdk_43_method_3_code
abbrev zc1 := jdk_52_method_6_code
abbrev zc2 := jdk_41_method_11_code
abbrev zc3 := jdk_42_method_155_code
abbrev zc4 := jdk_41_method_13_code
abbrev zc5 := jdk_42_method_157_code
abbrev zc6 := jdk_52_method_94_code
abbrev zc7 := jdk_52_method_91_code
abbrev zc8 := jdk_52_method_4_code
abbrev zc9 := jdk_52_method_5_code
abbrev zc10 := jdk_52_method_83_code
abbrev zc11 := jdk_43_method_2_code
abbrev zc12 := jdk_42_method_154_code
abbrev zc13 := jdk_42_method_152_code
abbrev zc14 := jdk_42_method_54_code
abbrev zc15 := jdk_42_method_56_code
abbrev zc16 := jdk_43_method_46_code
abbrev zc17 := jdk_52_method_24_code
abbrev zc18 := jdk_52_method_3_code
abbrev zc19 := jdk_52_method_2_code
abbrev zc20 := jdk_52_method_14_code
abbrev zc21 := jdk_52_method_21_code
abbrev zc22 := jdk_52_method_16_code
abbrev zc23 := jdk_52_method_15_code
abbrev zc24 := jdk_42_method_151_code
abbrev zc25 := jdk_42_method_139_code
abbrev zc26 := jdk_42_method_149_code
abbrev zc27 := jdk_42_method_3_code
abbrev zc28 := jdk_68_method_2_code
abbrev zc29 := jdk_67_method_1_code
abbrev zc30 := jdk_68_method_68_code
abbrev zc31 := jdk_68_method_9_code
abbrev zc32 := jdk_52_method_86_code
abbrev zc33 := jdk_43_method_50_code
abbrev zc34 := jdk_68_method_11_code
abbrev zc35 := jdk_68_method_71_code
abbrev zc36 := jdk_42_method_147_code
abbrev zc37 := jdk_68_method_73_code
abbrev zc38 := jdk_68_method_22_code
abbrev zc39 := jdk_67_method_7_code
abbrev zc40 := jdk_68_method_64_code
abbrev zc41 := jdk_68_method_6_code
abbrev zc42 := jdk_67_method_93_code
abbrev zc43 := jdk_65_method_131_code
abbrev zc44 := jdk_29_method_69_code
abbrev zc45 := jdk_65_method_133_code
abbrev zc46 := jdk_65_method_132_code
abbrev zc47 := jdk_42_method_150_code
abbrev zc48 := jdk_42_method_53_code
abbrev zc49 := jdk_67_method_42_code
abbrev oR0 : Room := ({ frames := 0, cells := 0, slots := 0, locals := 0 } : Room)
abbrev oR1 : Room := ({ frames := 1, cells := 0, slots := 0, locals := 14 } : Room)
abbrev oR2 : Room := ({ frames := 1, cells := 0, slots := 0, locals := 15 } : Room)
abbrev oR3 : Room := ({ frames := 2, cells := 0, slots := 0, locals := 29 } : Room)
abbrev oR4 : Room := ({ frames := 2, cells := 0, slots := 0, locals := 27 } : Room)
abbrev oR5 : Room := ({ frames := 3, cells := 0, slots := 0, locals := 40 } : Room)
abbrev oR6 : Room := ({ frames := 1, cells := 0, slots := 0, locals := 13 } : Room)
abbrev oR7 : Room := ({ frames := 4, cells := 0, slots := 0, locals := 53 } : Room)
abbrev oR8 : Room := ({ frames := 0, cells := 1, slots := 1, locals := 0 } : Room)
abbrev oR9 : Room := ({ frames := 1, cells := 1, slots := 2, locals := 14 } : Room)
abbrev oR10 : Room := ({ frames := 1, cells := 1, slots := 4, locals := 12 } : Room)
abbrev oR11 : Room := ({ frames := 1, cells := 1, slots := 32, locals := 12 } : Room)
abbrev oR12 : Room := ({ frames := 2, cells := 1, slots := 4, locals := 24 } : Room)
abbrev oR13 : Room := ({ frames := 1, cells := 1, slots := 2, locals := 18 } : Room)
abbrev oR14 : Room := ({ frames := 3, cells := 2, slots := 6, locals := 40 } : Room)
abbrev oR15 : Room := ({ frames := 1, cells := 0, slots := 0, locals := 12 } : Room)
abbrev oR16 : Room := ({ frames := 2, cells := 2, slots := 6, locals := 29 } : Room)
abbrev oR17 : Room := ({ frames := 2, cells := 1, slots := 2, locals := 35 } : Room)
abbrev oR18 : Room := ({ frames := 4, cells := 2, slots := 6, locals := 57 } : Room)
abbrev oR19 : Room := ({ frames := 5, cells := 2, slots := 6, locals := 74 } : Room)
abbrev oR20 : Room := ({ frames := 1, cells := 1, slots := 16, locals := 12 } : Room)
abbrev oR21 : Room := ({ frames := 2, cells := 1, slots := 16, locals := 25 } : Room)
abbrev oR22 : Room := ({ frames := 3, cells := 0, slots := 0, locals := 43 } : Room)
abbrev oR23 : Room := ({ frames := 4, cells := 0, slots := 0, locals := 60 } : Room)
abbrev oR24 : Room := ({ frames := 5, cells := 1, slots := 32, locals := 76 } : Room)
abbrev oR25 : Room := ({ frames := 2, cells := 0, slots := 0, locals := 25 } : Room)
abbrev oR26 : Room := ({ frames := 6, cells := 1, slots := 32, locals := 89 } : Room)
abbrev oR27 : Room := ({ frames := 1, cells := 0, slots := 0, locals := 40 } : Room)
abbrev oR28 : Room := ({ frames := 5, cells := 0, slots := 0, locals := 76 } : Room)
abbrev oR29 : Room := ({ frames := 2, cells := 0, slots := 0, locals := 55 } : Room)
abbrev oR30 : Room := ({ frames := 6, cells := 0, slots := 0, locals := 91 } : Room)
abbrev oR31 : Room := ({ frames := 7, cells := 1, slots := 32, locals := 102 } : Room)
abbrev oR32 : Room := ({ frames := 8, cells := 1, slots := 32, locals := 116 } : Room)
abbrev oR33 : Room := ({ frames := 9, cells := 1, slots := 32, locals := 130 } : Room)
abbrev oR34 : Room := ({ frames := 1, cells := 1, slots := 16, locals := 40 } : Room)
abbrev oR35 : Room := ({ frames := 2, cells := 1, slots := 16, locals := 56 } : Room)
abbrev oR36 : Room := ({ frames := 1, cells := 1, slots := 32, locals := 40 } : Room)
abbrev oR37 : Room := ({ frames := 2, cells := 1, slots := 32, locals := 56 } : Room)
abbrev oR38 : Room := ({ frames := 3, cells := 1, slots := 32, locals := 71 } : Room)
abbrev oR39 : Room := ({ frames := 4, cells := 1, slots := 32, locals := 87 } : Room)
abbrev oR40 : Room := ({ frames := 5, cells := 2, slots := 36, locals := 101 } : Room)
abbrev oR41 : Room := ({ frames := 10, cells := 10, slots := 200, locals := 143 } : Room)
abbrev oR42 : Room := ({ frames := 10, cells := 19, slots := 360, locals := 143 } : Room)
abbrev oR43 : Room := ({ frames := 1, cells := 4, slots := 8, locals := 12 } : Room)
abbrev oR44 : Room := ({ frames := 2, cells := 4, slots := 8, locals := 29 } : Room)
abbrev oR45 : Room := ({ frames := 5, cells := 0, slots := 0, locals := 66 } : Room)
set_option maxRecDepth 65536
set_option maxHeartbeats 40000000
theorem own_eqI {args : Array Value} {first s : State} {o : Option Outcome} {idx : List Nat} {a : Term} {n : Int32} (h : (Jvm.Cond.eq a (Term.int n)).value args first o s idx = some true) : a.eval args first o idx s = some (.int n) := by
  obtain ⟨x, y, ha, hb, k1, k2⟩ := cmp_v (Or.inl h)
  obtain rfl : y = .int n := (Option.some.inj ((Term.int_eval n).symm.trans hb)).symm
  obtain ⟨z, rfl⟩ := k2
  have q := gotT (Cond.eq_ints ha (Term.int_eval n)) h
  rw [ha, q]
theorem own_ne {s : State} {a b : Addr} {C n d : String} {x y : Int32} (h1 : s.fieldOf? a C n d = some (.int x)) (h2 : s.fieldOf? b C n d = some (.int y)) (h : x ≠ y) : a ≠ b := fun q => by
  subst q
  exact h (Value.int.inj (Option.some.inj (h1.symm.trans h2)))
theorem own_tn (i : Int32) : i.toNatClampNeg = i.toInt.toNat := rfl
def own_lb (us : List Int32) : List Value := us.map fun c => .int (c.toInt8.toInt32)
def own_hi (c : Int32) : Int32 := ((c >>> ((8 : Int32) &&& 31)).toInt8.toInt32)
def own_ub : List Int32 → List Value
  | [] => []
  | c :: us => .int (c.toInt8.toInt32) :: .int (own_hi c) :: own_ub us
def own_lat (us : List Int32) : Prop := ∀ c ∈ us, ¬ ((255 : Int32) < c)
def own_ch (c : Int32) : Prop := ¬ (c < (0 : Int32)) ∧ ¬ ((65535 : Int32) < c)
def own_chs (us : List Int32) : Prop := ∀ c ∈ us, own_ch c
theorem own_b8 {c : Int32} (h0 : ¬ c < (0 : Int32)) (h : ¬ (255 : Int32) < c) : (c.toInt8.toInt32 &&& (255 : Int32)) = c := by
  have e0 : (0 : Int32).toInt = 0 := by decide
  have e1 : (255 : Int32).toInt = 255 := by decide
  rw [Int32.lt_iff_toInt_lt] at h0 h
  have h1 := c_mask c.toInt8.toInt32 255 8 (by decide) (by decide)
  have h2 := c_i2b c
  exact Int32.toInt_inj.mp (by omega)
theorem own_u16 {c : Int32} (h : own_ch c) : (((c.toInt8.toInt32 &&& (255 : Int32)) <<< ((0 : Int32) &&& 31)) ||| ((own_hi c &&& (255 : Int32)) <<< ((8 : Int32) &&& 31))) = c := by
  obtain ⟨h0, h⟩ := h
  have e0 : (0 : Int32).toInt = 0 := by decide
  have e1 : (65535 : Int32).toInt = 65535 := by decide
  rw [Int32.lt_iff_toInt_lt] at h0 h
  have h1 := c_mask c.toInt8.toInt32 255 8 (by decide) (by decide)
  have h2 := c_i2b c
  have h3 := c_mask (own_hi c) 255 8 (by decide) (by decide)
  have h4 := c_i2b (c >>> ((8 : Int32) &&& 31))
  have h5 := c_ishr c 8 8 (by decide)
  have h6 := c_ishl (c.toInt8.toInt32 &&& 255) 0 0 (by decide)
  have h7 := c_ishl (own_hi c &&& 255) 8 8 (by decide)
  have r1 := rng32 ((c.toInt8.toInt32 &&& 255) <<< ((0 : Int32) &&& 31))
  have r2 := rng32 ((own_hi c &&& 255) <<< ((8 : Int32) &&& 31))
  have r3 := rng32 c
  have e4 : (own_hi c).toInt = ((c >>> ((8 : Int32) &&& 31)).toInt8.toInt32).toInt := rfl
  have x1 : ((c.toInt8.toInt32 &&& 255) <<< ((0 : Int32) &&& 31)).toInt = c.toInt % 256 := by omega
  have y0 : (own_hi c &&& 255).toInt = c.toInt / 256 := by omega
  have y1 : ((own_hi c &&& 255) <<< ((8 : Int32) &&& 31)).toInt = c.toInt / 256 * 256 := by omega
  have h8 := c_or' ((c.toInt8.toInt32 &&& 255) <<< ((0 : Int32) &&& 31)) ((own_hi c &&& 255) <<< ((8 : Int32) &&& 31)) 8 (by decide) 256 (by decide) (by omega) (by omega) (by omega)
  have r4 := rng32 (((c.toInt8.toInt32 &&& 255) <<< ((0 : Int32) &&& 31)) ||| ((own_hi c &&& 255) <<< ((8 : Int32) &&& 31)))
  rw [x1, y1] at h8
  exact Int32.toInt_inj.mp (by omega)
theorem own_i2c {c : Int32} (h : own_ch c) : c.toUInt32.toUInt16.toUInt32.toInt32 = c := by
  obtain ⟨h0, h⟩ := h
  have e0 : (0 : Int32).toInt = 0 := by decide
  have e1 : (65535 : Int32).toInt = 65535 := by decide
  rw [Int32.lt_iff_toInt_lt] at h0 h
  have h1 := c_i2c c
  exact Int32.toInt_inj.mp (by omega)
theorem own_chc (x : Int32) : own_ch (x.toUInt32.toUInt16.toUInt32.toInt32) := by
  have e0 : (0 : Int32).toInt = 0 := by decide
  have e1 : (65535 : Int32).toInt = 65535 := by decide
  have h1 := c_i2c x
  unfold own_ch
  rw [Int32.lt_iff_toInt_lt, Int32.lt_iff_toInt_lt]
  omega
theorem own_s0 (c : Int32) : (c >>> ((0 : Int32) &&& 31)) = c := by
  have h := c_ishr c 0 0 (by decide)
  exact Int32.toInt_inj.mp (by omega)
theorem own_88 (x : Int32) : x.toInt8.toInt32.toInt8.toInt32 = x.toInt8.toInt32 := by
  have h1 := c_i2b x
  have h2 := c_i2b x.toInt8.toInt32
  exact Int32.toInt_inj.mp (by omega)
theorem own_lbl (us : List Int32) : (own_lb us).length = us.length := by simp [own_lb]
theorem own_ubl (us : List Int32) : (own_ub us).length = 2 * us.length := by
  induction us with
  | nil => rfl
  | cons c us ih => simp only [own_ub, List.length_cons, ih]; omega
theorem own_lba (us ws : List Int32) : own_lb (us ++ ws) = own_lb us ++ own_lb ws := by simp [own_lb]
theorem own_uba (us ws : List Int32) : own_ub (us ++ ws) = own_ub us ++ own_ub ws := by
  induction us with
  | nil => rfl
  | cons c us ih => simp only [List.cons_append, own_ub, ih]
theorem own_lbg {us : List Int32} {i : Nat} {c : Int32} (h : us[i]? = some c) : (own_lb us)[i]? = some (.int (c.toInt8.toInt32)) := by simp [own_lb, h]
theorem own_ubg {us : List Int32} {i : Nat} {c : Int32} (h : us[i]? = some c) : (own_ub us)[2 * i]? = some (.int (c.toInt8.toInt32)) ∧ (own_ub us)[2 * i + 1]? = some (.int (own_hi c)) := by
  induction us generalizing i with
  | nil => simp at h
  | cons d us ih =>
    cases i with
    | zero => simp at h; subst h; exact ⟨rfl, rfl⟩
    | succ i =>
      have q := ih (i := i) (by simpa using h)
      rw [show 2 * (i + 1) = 2 * i + 1 + 1 from by omega]
      simpa [own_ub] using q
theorem own_lata (us ws : List Int32) : own_lat (us ++ ws) ↔ own_lat us ∧ own_lat ws := by
  unfold own_lat
  constructor
  · exact fun h => ⟨fun c hc => h c (List.mem_append_left _ hc), fun c hc => h c (List.mem_append_right _ hc)⟩
  · rintro ⟨h1, h2⟩ c hc
    rcases List.mem_append.mp hc with q | q
    · exact h1 c q
    · exact h2 c q
theorem own_chsa (us ws : List Int32) : own_chs (us ++ ws) ↔ own_chs us ∧ own_chs ws := by
  unfold own_chs
  constructor
  · exact fun h => ⟨fun c hc => h c (List.mem_append_left _ hc), fun c hc => h c (List.mem_append_right _ hc)⟩
  · rintro ⟨h1, h2⟩ c hc
    rcases List.mem_append.mp hc with q | q
    · exact h1 c q
    · exact h2 c q
def own_enc (us : List Int32) (kc nb : Int32) (vs : List Value) : Prop := own_chs us ∧ us.length ≤ 16 ∧ ((own_lat us ∧ kc = (0 : Int32) ∧ nb.toInt = us.length ∧ vs = own_lb us) ∨ (¬ own_lat us ∧ kc = (1 : Int32) ∧ nb.toInt = 2 * us.length ∧ vs = own_ub us))
def own_sbe (us : List Int32) (bc nb : Int32) (vs : List Value) : Prop := own_chs us ∧ us.length ≤ 16 ∧ ((own_lat us ∧ bc = (0 : Int32) ∧ nb = (16 : Int32) ∧ vs = own_lb us) ∨ (¬ own_lat us ∧ bc = (1 : Int32) ∧ nb = (32 : Int32) ∧ vs = own_ub us))
theorem own_push {Z : State} {h h' : Heap} {a : Addr} {k : ClassId} {ty : FieldType} {z j : Int32} {vs : List Value} {v dv : Value} (F : Arv Z h a k ty z vs dv) (hv : fits ty v = true) (W : Wr h h' a j.toNatClampNeg v) (hj : j.toNatClampNeg = vs.length) : Arv Z h' a k ty z (vs ++ [v]) dv := by
  have F' : Arv Z h a k ty z (vs ++ List.replicate 1 dv) dv := F.pad (pad_rep vs dv 1)
  obtain ⟨c, A, q, S, M, H, G⟩ := F'
  have r := Arv.set A q S M H G hv W vs.length hj (by simp)
  simpa using r
theorem own_ix {i z : Int32} (h0 : ¬ (i < (0 : Int32))) (hz : 2 * i.toInt + 1 < z.toInt) : (¬ ((i <<< ((1 : Int32) &&& 31)) < 0) ∧ (i <<< ((1 : Int32) &&& 31)) < z) ∧ (i <<< ((1 : Int32) &&& 31)).toNatClampNeg = 2 * i.toNatClampNeg ∧ (¬ (((i <<< ((1 : Int32) &&& 31)) + (1 : Int32)) < 0) ∧ ((i <<< ((1 : Int32) &&& 31)) + (1 : Int32)) < z) ∧ ((i <<< ((1 : Int32) &&& 31)) + (1 : Int32)).toNatClampNeg = 2 * i.toNatClampNeg + 1 := by
  have e0 : (0 : Int32).toInt = 0 := by decide
  have e1 : (1 : Int32).toInt = 1 := by decide
  have h1 := c_ishl i 1 1 (by decide)
  have h2 := c_iadd (i <<< ((1 : Int32) &&& 31)) 1
  have r1 := rng32 i
  have r2 := rng32 z
  have r3 := rng32 (i <<< ((1 : Int32) &&& 31))
  have r4 := rng32 ((i <<< ((1 : Int32) &&& 31)) + 1)
  rw [Int32.lt_iff_toInt_lt] at h0
  have x1 : (i <<< ((1 : Int32) &&& 31)).toInt = 2 * i.toInt := by omega
  have x2 : ((i <<< ((1 : Int32) &&& 31)) + 1).toInt = 2 * i.toInt + 1 := by omega
  simp only [Int32.lt_iff_toInt_lt, own_tn, x1, x2, e0]
  omega
theorem own_g1 {us : List Int32} {i : Nat} {c : Int32} {d : Value} (h : us[i]? = some c) : (own_lb us).getD i d = .int (c.toInt8.toInt32) := by rw [List.getD_eq_getElem?_getD, own_lbg h]; rfl
theorem own_g2 {us : List Int32} {i : Nat} {c : Int32} {d : Value} (h : us[i]? = some c) : (own_ub us).getD (2 * i) d = .int (c.toInt8.toInt32) ∧ (own_ub us).getD (2 * i + 1) d = .int (own_hi c) := by rw [List.getD_eq_getElem?_getD, List.getD_eq_getElem?_getD, (own_ubg h).1, (own_ubg h).2]; exact ⟨rfl, rfl⟩
theorem own_in1 {us : List Int32} {i nb uc : Int32} (hg : us[i.toNatClampNeg]? = some uc) (h0 : ¬ (i < (0 : Int32))) (hnb : nb.toInt = us.length) : i < nb := by
  have e0 : (0 : Int32).toInt = 0 := by decide
  have q := (List.getElem?_eq_some_iff.mp hg).1
  rw [Int32.lt_iff_toInt_lt] at h0 ⊢
  simp only [own_tn] at q
  omega
theorem own_in2 {us : List Int32} {i nb uc : Int32} (hg : us[i.toNatClampNeg]? = some uc) (h0 : ¬ (i < (0 : Int32))) (hnb : nb.toInt = 2 * us.length) : 2 * i.toInt + 1 < nb.toInt ∧ i < (nb >>> ((1 : Int32) &&& 31)) := by
  have e0 : (0 : Int32).toInt = 0 := by decide
  have q := (List.getElem?_eq_some_iff.mp hg).1
  have h1 := c_ishr nb 1 1 (by decide)
  rw [Int32.lt_iff_toInt_lt] at h0 ⊢
  simp only [own_tn] at q
  omega
theorem own_u1 {u0 u1 : Int32} (h : ¬ own_lat [u0, u1]) (h0 : ¬ ((255 : Int32) < u0)) : (255 : Int32) < u1 := by
  refine Classical.byContradiction fun q => h fun c hc => ?_
  simp only [List.mem_cons, List.not_mem_nil, or_false] at hc
  rcases hc with rfl | rfl
  · exact h0
  · exact q
theorem own_enc1 {u : Int32} {kc nb : Int32} {vs : List Value} (h : own_ch u) (q : (¬ ((255 : Int32) < u) ∧ kc = (0 : Int32) ∧ nb = (1 : Int32) ∧ vs = own_lb [u]) ∨ (¬ ¬ ((255 : Int32) < u) ∧ kc = (1 : Int32) ∧ nb = (2 : Int32) ∧ vs = own_ub [u])) : own_enc [u] kc nb vs := by
  have hl : own_lat [u] ↔ ¬ ((255 : Int32) < u) := by simp [own_lat]
  refine ⟨fun c hc => by simp only [List.mem_cons, List.not_mem_nil, or_false] at hc; subst hc; exact h, by simp, ?_⟩
  rw [hl]
  rcases q with ⟨a, b, rfl, d⟩ | ⟨a, b, rfl, d⟩
  · exact Or.inl ⟨a, b, rfl, d⟩
  · exact Or.inr ⟨a, b, rfl, d⟩
theorem own_enc2 {u0 u1 : Int32} {kc nb : Int32} {vs : List Value} (h0 : own_ch u0) (h1 : own_ch u1) (q : (own_lat [u0, u1] ∧ kc = (0 : Int32) ∧ nb = (2 : Int32) ∧ vs = own_lb [u0, u1]) ∨ (¬ own_lat [u0, u1] ∧ kc = (1 : Int32) ∧ nb = (4 : Int32) ∧ vs = own_ub [u0, u1])) : own_enc [u0, u1] kc nb vs := by
  refine ⟨fun c hc => ?_, by simp, ?_⟩
  · simp only [List.mem_cons, List.not_mem_nil, or_false] at hc
    rcases hc with rfl | rfl
    · exact h0
    · exact h1
  rcases q with ⟨a, b, rfl, d⟩ | ⟨a, b, rfl, d⟩
  · exact Or.inl ⟨a, b, rfl, d⟩
  · exact Or.inr ⟨a, b, rfl, d⟩
theorem own_get {us : List Int32} {j n : Int32} {k : Nat} (hj : ¬ (j < (0 : Int32))) (hk : j.toInt + (k + 1 : Nat) = n.toInt) (hn : n.toInt = us.length) : ∃ u, us[j.toNatClampNeg]? = some u := by
  have e0 : (0 : Int32).toInt = 0 := by decide
  rw [Int32.lt_iff_toInt_lt] at hj
  have q : j.toNatClampNeg < us.length := by simp only [own_tn]; omega
  exact ⟨us[j.toNatClampNeg], List.getElem?_eq_getElem q⟩
theorem own_ubt {us : List Int32} {i : Nat} {u : Int32} (h : us[i]? = some u) : own_ub (us.take (i + 1)) = own_ub (us.take i) ++ [.int (u.toInt8.toInt32), .int (own_hi u)] := by
  rw [List.take_succ, h, own_uba]; rfl
theorem own_j1 {j n : Int32} {k : Nat} (hj : ¬ (j < (0 : Int32))) (hk : j.toInt + (k + 1 : Nat) = n.toInt) (hn16 : n.toInt ≤ 16) : j < n ∧ ¬ ((j + (1 : Int32)) < (0 : Int32)) ∧ (j + (1 : Int32)).toInt = j.toInt + 1 ∧ (j + (1 : Int32)).toNatClampNeg = j.toNatClampNeg + 1 := by
  have e0 : (0 : Int32).toInt = 0 := by decide
  have e1 : (1 : Int32).toInt = 1 := by decide
  have h1 := c_iadd j 1
  have r1 := rng32 (j + 1)
  rw [Int32.lt_iff_toInt_lt] at hj
  have x : (j + (1 : Int32)).toInt = j.toInt + 1 := by omega
  refine ⟨by rw [Int32.lt_iff_toInt_lt]; omega, by rw [Int32.lt_iff_toInt_lt, x, e0]; omega, x, ?_⟩
  simp only [own_tn, x]
  omega
theorem own_d1 {d dj j n z : Int32} {k : Nat} (hd0 : ¬ (d < (0 : Int32))) (hj : ¬ (j < (0 : Int32))) (hk : j.toInt + (k + 1 : Nat) = n.toInt) (hdj : dj.toInt = d.toInt + j.toInt) (hz : 2 * (d.toInt + n.toInt) ≤ z.toInt) : ¬ (dj < (0 : Int32)) ∧ 2 * dj.toInt + 1 < z.toInt ∧ (dj + (1 : Int32)).toInt = d.toInt + (j.toInt + 1) ∧ dj.toNatClampNeg = d.toNatClampNeg + j.toNatClampNeg := by
  have e0 : (0 : Int32).toInt = 0 := by decide
  have e1 : (1 : Int32).toInt = 1 := by decide
  have h1 := c_iadd dj 1
  have r1 := rng32 (dj + 1)
  have r2 := rng32 z
  rw [Int32.lt_iff_toInt_lt] at hj hd0
  simp only [Int32.lt_iff_toInt_lt, own_tn, e0]
  omega
theorem own_jl {us : List Int32} {j n : Int32} (hk : j.toInt + (0 : Nat) = n.toInt) (hn : n.toInt = us.length) : ¬ (j < n) ∧ us.take j.toNatClampNeg = us := by
  refine ⟨by rw [Int32.lt_iff_toInt_lt]; omega, List.take_of_length_le ?_⟩
  simp only [own_tn]; omega
theorem own_bnd {d n z : Int32} (hd0 : ¬ (d < (0 : Int32))) (hn0 : 0 ≤ n.toInt) (hz : 2 * (d.toInt + n.toInt) ≤ z.toInt) : ¬ ((((z >>> ((1 : Int32) &&& 31)) ||| d) ||| n) < (0 : Int32)) ∧ ¬ (((z >>> ((1 : Int32) &&& 31)) - d) < n) := by
  have e0 : (0 : Int32).toInt = 0 := by decide
  have h1 := c_ishr z 1 1 (by decide)
  have h2 := c_isub (z >>> ((1 : Int32) &&& 31)) d
  have r1 := rng32 ((z >>> ((1 : Int32) &&& 31)) - d)
  have rz := rng32 z
  have rd := rng32 d
  rw [Int32.lt_iff_toInt_lt] at hd0
  have o1 := (c_orS (z >>> ((1 : Int32) &&& 31)) d).1 (by omega) (by omega)
  have o2 := (c_orS ((z >>> ((1 : Int32) &&& 31)) ||| d) n).1 o1 hn0
  rw [Int32.lt_iff_toInt_lt, Int32.lt_iff_toInt_lt]
  omega
theorem own_cp (U L : List Value) (d : Value) : ((U ++ List.replicate L.length d).take U.length ++ L ++ (U ++ List.replicate L.length d).drop (U.length + L.length)) = U ++ L := by
  rw [List.take_left, List.drop_of_length_le (by simp)]; simp
theorem own_rg (L : List Value) (d : Value) (n : Nat) (h : n = L.length) : L = (List.range n).map fun i => L.getD ((0 : Int32).toNatClampNeg + i) d := by
  subst h
  apply List.ext_getElem?
  intro i
  have e0 : (0 : Int32).toNatClampNeg = 0 := rfl
  by_cases q : i < L.length
  · simp [q, e0]
  · simp [q, e0, List.getElem?_eq_none (Nat.le_of_not_lt q)]
theorem own_dp0 {cn nb : Int32} {us ws : List Int32} (hcn : cn.toInt = us.length) (hnb : nb.toInt = ws.length) (hs : us.length + ws.length ≤ 16) : ¬ ((cn <<< ((0 : Int32) &&& 31)) < 0) ∧ ¬ (nb < 0) ∧ (0 : Int32).toNatClampNeg + nb.toNatClampNeg ≤ nb.toNatClampNeg ∧ (cn <<< ((0 : Int32) &&& 31)).toNatClampNeg + nb.toNatClampNeg ≤ (16 : Int32).toNatClampNeg ∧ nb.toNatClampNeg = (own_lb ws).length ∧ (cn <<< ((0 : Int32) &&& 31)).toNatClampNeg = (own_lb us).length := by
  have e0 : (0 : Int32).toInt = 0 := by decide
  have e16 : (16 : Int32).toInt = 16 := by decide
  have h1 := c_ishl cn 0 0 (by decide)
  have r1 := rng32 (cn <<< ((0 : Int32) &&& 31))
  have x : (cn <<< ((0 : Int32) &&& 31)).toInt = cn.toInt := by omega
  rw [own_lbl, own_lbl]
  simp only [Int32.lt_iff_toInt_lt, own_tn, x, e0, e16]
  omega
theorem own_dp1 {cn nb : Int32} {us ws : List Int32} (hcn : cn.toInt = us.length) (hnb : nb.toInt = 2 * ws.length) (hs : us.length + ws.length ≤ 16) : ¬ ((cn <<< ((1 : Int32) &&& 31)) < 0) ∧ ¬ (nb < 0) ∧ (0 : Int32).toNatClampNeg + nb.toNatClampNeg ≤ nb.toNatClampNeg ∧ (cn <<< ((1 : Int32) &&& 31)).toNatClampNeg + nb.toNatClampNeg ≤ (32 : Int32).toNatClampNeg ∧ nb.toNatClampNeg = (own_ub ws).length ∧ (cn <<< ((1 : Int32) &&& 31)).toNatClampNeg = (own_ub us).length := by
  have e0 : (0 : Int32).toInt = 0 := by decide
  have e32 : (32 : Int32).toInt = 32 := by decide
  have h1 := c_ishl cn 1 1 (by decide)
  have r1 := rng32 (cn <<< ((1 : Int32) &&& 31))
  have x : (cn <<< ((1 : Int32) &&& 31)).toInt = 2 * cn.toInt := by omega
  rw [own_ubl, own_ubl]
  simp only [Int32.lt_iff_toInt_lt, own_tn, x, e0, e32]
  omega
theorem own_mc {cn ln : Int32} {us ws : List Int32} (hcn : cn.toInt = us.length) (hln : ln.toInt = ws.length) (hs : us.length + ws.length ≤ 16) : ¬ ((0 : Int32) < ((cn + ln) - (16 : Int32))) ∧ (cn + ln).toInt = (us ++ ws).length := by
  have e0 : (0 : Int32).toInt = 0 := by decide
  have e16 : (16 : Int32).toInt = 16 := by decide
  have h1 := c_iadd cn ln
  have h2 := c_isub (cn + ln) 16
  have r1 := rng32 (cn + ln)
  have r2 := rng32 (cn + ln - 16)
  rw [List.length_append, Int32.lt_iff_toInt_lt]
  constructor <;> omega
theorem own_ln0 {nb : Int32} {ws : List Int32} (h : nb.toInt = ws.length) : (nb >>> ((0 : Int32) &&& 31)).toInt = ws.length := by rw [own_s0]; exact h
theorem own_ln1 {nb : Int32} {ws : List Int32} (h : nb.toInt = 2 * ws.length) : (nb >>> ((1 : Int32) &&& 31)).toInt = ws.length := by
  have h1 := c_ishr nb 1 1 (by decide)
  omega
theorem own_lnE {us : List Int32} {kc nb : Int32} {vs : List Value} (h : own_enc us kc nb vs) : (nb >>> (kc &&& 31)).toInt = us.length := by
  obtain ⟨-, -, ⟨-, rfl, h, -⟩ | ⟨-, rfl, h, -⟩⟩ := h
  · exact own_ln0 h
  · exact own_ln1 h
theorem own_kcE {us : List Int32} {kc nb : Int32} {vs : List Value} (h : own_enc us kc nb vs) : kc = (0 : Int32) ∨ kc = (1 : Int32) := by
  obtain ⟨-, -, ⟨-, h, -⟩ | ⟨-, h, -⟩⟩ := h
  · exact Or.inl h
  · exact Or.inr h
theorem own_sb0 : own_sbe [] (0 : Int32) (16 : Int32) [] := ⟨fun _ h => (nomatch h), by decide, Or.inl ⟨fun _ h => (nomatch h), rfl, rfl, rfl⟩⟩
theorem own_enc0 : own_enc [] (0 : Int32) (0 : Int32) (own_lb []) := ⟨fun _ h => (nomatch h), by decide, Or.inl ⟨fun _ h => (nomatch h), rfl, rfl, rfl⟩⟩
theorem own_k3 : own_enc [58, 47, 47] (0 : Int32) (3 : Int32) (own_lb [58, 47, 47]) := ⟨by unfold own_chs own_ch; decide, by decide, Or.inl ⟨by unfold own_lat; decide, rfl, rfl, rfl⟩⟩
theorem own_k1 : own_enc [63] (0 : Int32) (1 : Int32) (own_lb [63]) := ⟨by unfold own_chs own_ch; decide, by decide, Or.inl ⟨by unfold own_lat; decide, rfl, rfl, rfl⟩⟩
theorem own_sbL {us ws : List Int32} (h1 : own_chs us) (h2 : own_chs ws) (hs : us.length + ws.length ≤ 16) (l1 : own_lat us) (l2 : own_lat ws) : own_sbe (us ++ ws) (0 : Int32) (16 : Int32) (own_lb (us ++ ws)) := ⟨(own_chsa _ _).mpr ⟨h1, h2⟩, by rw [List.length_append]; exact hs, Or.inl ⟨(own_lata _ _).mpr ⟨l1, l2⟩, rfl, rfl, rfl⟩⟩
theorem own_sbU {us ws : List Int32} (h1 : own_chs us) (h2 : own_chs ws) (hs : us.length + ws.length ≤ 16) (l : ¬ own_lat us ∨ ¬ own_lat ws) : own_sbe (us ++ ws) (1 : Int32) (32 : Int32) (own_ub (us ++ ws)) := ⟨(own_chsa _ _).mpr ⟨h1, h2⟩, by rw [List.length_append]; exact hs, Or.inr ⟨fun q => by
  have q := (own_lata _ _).mp q
  rcases l with l | l
  · exact l q.1
  · exact l q.2, rfl, rfl, rfl⟩⟩
theorem own_nev {x v v' : Addr} {n : Nat} (u : v' = v ∨ n ≤ v') (h : x ≠ v) (l : x < n) : x ≠ v' := by
  rcases u with rfl | u
  · exact h
  · exact Nat.ne_of_lt (Nat.lt_of_lt_of_le l u)
theorem own_szv {v v' : Addr} {n n0 : Nat} (u : v' = v ∨ n ≤ v') (h : n0 ≤ v) (k : n0 ≤ n) : n0 ≤ v' := by
  rcases u with rfl | u
  · exact h
  · exact Nat.le_trans k u
theorem own_sfv {Z : State} {EL : List (String × Nat)} {vm : Vm} {h : Heap} {v v' : Addr} (u : v' = v ∨ h.size ≤ v') (S : Safe Z EL vm h v) : Safe Z EL vm h v' := by
  rcases u with rfl | u
  · exact S
  · exact Safe.new u
theorem own_safeS {Z : State} {EL : List (String × Nat)} {vm : Vm} {h : Heap} {x : Addr} (hal : Z.vm.Alike vm) (E : Exa Z h x "java/lang/String") (F : Fld Z h x "java/lang/String" "value" "[B" .null) : Safe Z EL vm h x := fun B => by
  obtain ⟨p, -, u, a, -, q, -, G, rfl | rfl⟩ := B
  · obtain ⟨cell, cf, k, i, f, g1, g2, g3, g4, g5, g6, g7⟩ := F
    cases (show h[q.sa]? = some q.sC from G.ha).symm.trans g1
    obtain ⟨cS, ⟨⟨-, -, -, ⟨cv, kv, iv, s4, -⟩, -, -, -, s8, -⟩, -⟩, -⟩ := G
    obtain ⟨kv', z4⟩ := ff_back (U := Wst Z vm h) hal s4
    have e4 := z4.symm.trans g2
    simp only [Option.some.injEq, Prod.mk.injEq] at e4
    rw [← e4.2.2.2, s8] at g7
    cases g7
  · obtain ⟨cell, k, e1, e2, e3, -, -⟩ := E
    cases (show h[q.sd]? = some q.SA from G.hd).symm.trans e1
    obtain ⟨cS, -, -, f, -⟩ := G
    have f' : Z.vm.findClass "[B" = some q.SA.cls := by rw [← hal.findClass]; exact f
    obtain ⟨k1, q1, q2⟩ := Vm.findClass_spec f'
    obtain ⟨k2, q3, q4⟩ := Vm.findClass_spec e2
    cases q1.symm.trans q3
    exact absurd (q2.symm.trans q4) (by decide)
theorem own_t0 : (∀ c ∈ "".toList, c.toNat < 256) ∧ "".toList.map (fun c => Value.int (Jvm.Lit.byteI c.toNat.toUInt16)) = own_lb [] := ⟨by simp, rfl⟩
theorem own_t3 : (∀ c ∈ "://".toList, c.toNat < 256) ∧ "://".toList.map (fun c => Value.int (Jvm.Lit.byteI c.toNat.toUInt16)) = own_lb [58, 47, 47] := ⟨by decide, by rfl⟩
theorem own_t1 : (∀ c ∈ "?".toList, c.toNat < 256) ∧ "?".toList.map (fun c => Value.int (Jvm.Lit.byteI c.toNat.toUInt16)) = own_lb [63] := ⟨by decide, by rfl⟩
theorem own_nel {n z : Int32} (h : n < z) : ¬ (n = z) := fun q => by subst q; exact Int32.lt_irrefl h
theorem own_dpc {n z : Int32} {xs : List Value} (hn : n.toNatClampNeg = xs.length) (hn0 : ¬ (n < (0 : Int32))) (hz : n < z) : ¬ ((0 : Int32) < 0) ∧ ¬ (n < 0) ∧ (0 : Int32).toNatClampNeg + n.toNatClampNeg ≤ z.toNatClampNeg ∧ (0 : Int32).toNatClampNeg + n.toNatClampNeg ≤ n.toNatClampNeg ∧ n.toNatClampNeg = xs.length ∧ (0 : Int32).toNatClampNeg = ([] : List Value).length := by
  have e0 : (0 : Int32).toNatClampNeg = 0 := rfl
  refine ⟨by decide, hn0, ?_, by rw [e0]; omega, hn, rfl⟩
  rw [Int32.lt_iff_toInt_lt] at hz
  simp only [e0, own_tn]
  omega
theorem own_le {n z : Int32} (hz : n < z) : n.toNatClampNeg ≤ z.toNatClampNeg := by
  rw [Int32.lt_iff_toInt_lt] at hz
  simp only [own_tn]
  omega
theorem own_ts0 {cn : Int32} {us : List Int32} (hcn : cn.toInt = us.length) (hl : us.length < 16) : ¬ (cn < (0 : Int32)) ∧ cn < (16 : Int32) ∧ cn.toNatClampNeg = (own_lb us).length := by
  have e0 : (0 : Int32).toInt = 0 := by decide
  have e16 : (16 : Int32).toInt = 16 := by decide
  rw [own_lbl]
  simp only [Int32.lt_iff_toInt_lt, own_tn, e0, e16]
  omega
theorem own_ts1 {cn : Int32} {us : List Int32} (hcn : cn.toInt = us.length) (hl : us.length < 16) : ¬ ((cn <<< ((1 : Int32) &&& 31)) < (0 : Int32)) ∧ (cn <<< ((1 : Int32) &&& 31)) < (32 : Int32) ∧ (cn <<< ((1 : Int32) &&& 31)).toNatClampNeg = (own_ub us).length ∧ (cn <<< ((1 : Int32) &&& 31)).toInt = 2 * us.length := by
  have e0 : (0 : Int32).toInt = 0 := by decide
  have e32 : (32 : Int32).toInt = 32 := by decide
  have h1 := c_ishl cn 1 1 (by decide)
  have r1 := rng32 (cn <<< ((1 : Int32) &&& 31))
  have x : (cn <<< ((1 : Int32) &&& 31)).toInt = 2 * cn.toInt := by omega
  rw [own_ubl]
  simp only [Int32.lt_iff_toInt_lt, own_tn, x, e0, e32]
  omega
theorem own_sub0 (n : Int32) : n - (0 : Int32) = n := by
  have e0 : (0 : Int32).toInt = 0 := by decide
  have h := c_isub n 0
  have r := rng32 n
  have r2 := rng32 (n - 0)
  exact Int32.toInt_inj.mp (by omega)
theorem own_4 {x k : Int32} (h : k = (x &&& (3 : Int32))) : k = (0 : Int32) ∨ k = (1 : Int32) ∨ k = (2 : Int32) ∨ k = (3 : Int32) := by
  have h1 := c_mask x 3 2 (by decide) (by decide)
  rw [← h] at h1
  have hz : k.toInt = 0 ∨ k.toInt = 1 ∨ k.toInt = 2 ∨ k.toInt = 3 := by omega
  rcases hz with hz | hz | hz | hz
  · exact Or.inl (Int32.toInt_inj.mp (hz.trans (by decide)))
  · exact Or.inr (Or.inl (Int32.toInt_inj.mp (hz.trans (by decide))))
  · exact Or.inr (Or.inr (Or.inl (Int32.toInt_inj.mp (hz.trans (by decide)))))
  · exact Or.inr (Or.inr (Or.inr (Int32.toInt_inj.mp (hz.trans (by decide)))))
def own_at (us : List Int32) (es : List Value) (n : Int32) : Prop := ∀ i : Int32, ¬ (i < (0 : Int32)) → i < (11 : Int32) → ¬ (i < n) ∨ ∃ uc : Int32, us[i.toNatClampNeg]? = some uc ∧ own_ch uc ∧ es.getD i.toNatClampNeg (.int 0) = .int uc
theorem own_atP {us : List Int32} {ts : List Value} {n : Int32} (h : own_chs us) (hn : n.toInt = us.length) : own_at us (us.map Value.int ++ ts) n := fun i h0 h11 => by
  by_cases q : i < n
  · have e0 : (0 : Int32).toInt = 0 := by decide
    rw [Int32.lt_iff_toInt_lt] at q h0
    have hl : i.toNatClampNeg < us.length := by simp only [own_tn]; omega
    refine Or.inr ⟨us[i.toNatClampNeg], List.getElem?_eq_getElem hl, h _ (List.getElem_mem hl), ?_⟩
    rw [List.getD_eq_getElem?_getD, List.getElem?_append_left (by simpa using hl), List.getElem?_map, List.getElem?_eq_getElem hl]; rfl
  · exact Or.inl q
theorem own_aS {Z : State} {EL : List (String × Nat)} {vm : Vm} {h : Heap} {y : Addr} {L : List Addr} (q : Safe Z EL vm h y) (r : ∀ x ∈ L, Safe Z EL vm h x) : ∀ x ∈ y :: L, Safe Z EL vm h x := allS (P := fun x => Safe Z EL vm h x) q r
theorem own_cs {args : Array Value} {s : State} {T : Term} {cs : Int32} (hn : (Cond.not (.eq T (.int 0))).before args s = true) (he : T.eval args s none [] s = some (.int cs)) : ¬ (cs = (0 : Int32)) := fun q => by
  have h := Cond.before_iff.mp hn
  simp only [Cond.value] at h
  subst q
  simp [he, Term.eval] at h
theorem own_same {Z : State} {a0 : Array Value} {C : String} {x y : MethodName} (hd : (Cond.declares y).before a0 Z = true) (hs : (Cond.selects C x x).before a0 Z = true) (hc : x.cls = y.cls) (hy : y.cls ≠ "java/lang/invoke/MethodHandle" ∧ y.cls ≠ "java/lang/invoke/VarHandle") : (Cond.sameMethod y.cls y.cls y.name y.desc).before a0 Z = true := by
  obtain ⟨m, meth, hm, -⟩ := Cond.declares_spec hd
  obtain ⟨k0, hk0, hki⟩ := own_nf (y := y) hs hc m hm
  have hcn := findClass_of_methodNamed hm
  have hf := State.methodFound?_of_named hm hy
  obtain ⟨yc, yn, yd⟩ := y
  have hcn : Z.vm.findClass yc = some m.cls := hcn
  have hf : Z.methodFound? yc yn yd = some m := hf
  simp [Cond.before, Cond.holds, Cond.value, hcn, hf, hm, hk0, hki]
abbrev own_EL : List (String × Nat) := [("com/example/hash4/hash4/canonical/CanonicalUrl", 33), ("com/example/hash4/hash4/canonical/CanonicalUrl", 39), ("java/lang/String", 7)]
theorem own_ew {Z : State} {a0 : Array Value} (hw : ∀ d ∈ tables_1, d.before a0 Z = true) : EW Z a0 own_EL := (EW.cons (ow hw 132 rfl) (own_t3.1) (EW.cons (ow hw 256 rfl) (own_t1.1) (EW.cons (ow hw 264 rfl) (own_t0.1) EW.nil)))

theorem pn0 : plainName "java/lang/StringLatin1" = true := by first | (simp [plainName, overriddenIn]; done) | decide +kernel
theorem d2_0 : decode zc0 0 = .ok (.iload_n 0, 1) := by decide +kernel
theorem d2_1 : decode zc0 1 = .ok (.sipush 255, 3) := by decide +kernel
theorem d2_4 : decode zc0 4 = .ok (.if_icmp .gt 7, 3) := by decide +kernel
theorem d2_11 : decode zc0 11 = .ok (.iconst 0, 1) := by decide +kernel
theorem d2_12 : decode zc0 12 = .ok (.ireturn, 1) := by decide +kernel
theorem d2_7 : decode zc0 7 = .ok (.iconst 1, 1) := by decide +kernel
theorem d2_8 : decode zc0 8 = .ok (.goto 4, 3) := by decide +kernel
theorem ef2 (m : MethodId) (uc : Int32) : entryFrame m #[(.int uc)] 1 = mkF m 0 #[oi uc] [] := by first | (simp [entryFrame, mkF, argsToLocals, Value.category]; done) | rfl
def Q2 (Z : State) (uc : Int32) (h0 : Heap) (n0 : Nat) (v : Option Value) (h : Heap) (L : List Loc) : Prop := v = some (.int (own_b (¬ ((255 : Int32) < uc)))) ∧ Fr n0 L ∧ h = h0
theorem rm2 (l : Launch) (Z : State) (a0 : Array Value) (hw : ∀ d ∈ tables_1, d.before a0 Z = true) (ws : List Jvm.Cond) (uc : Int32) (h0 : Heap) (n0 : Nat) (Z0 : n0 ≤ h0.size) :
    MetFree l oM0 (head1 (Jvm.Cond.code oM0 zc0 1 (some .boolean) :: ws) oR0) (fun a U => a = #[(.int uc)] ∧ Z.Warmed39 U.vm ∧ U.heap = h0) (fun _ _ _ _ _ => True) (fun _ U o U' => ∃ v L, o = .returned v ∧ Q2 Z uc h0 n0 v U'.heap L ∧ FrameEnd U o U' L oR0.cells oR0.slots) := by
  refine MetFree.of_bodySF (plainFor_of_name pn0) hisR ?_
  intro p e s m args below meth c s₁ Bd hml0 hP hK
  obtain ⟨rfl, hZ, hh⟩ := hP
  have hx := Bd.exec
  have hby := Bd.bytes
  have hml : c.maxLocals = 1 := hml0
  have hown : s.vm.findClass "java/lang/StringLatin1" = some m.cls := findClass_of_methodNamed Bd.named
  have X0 : Stand p l e oR0 s m #[(.int uc)] below meth c s₁ [] 0 0 := Stand.of_body Bd
  have e0 : s₁.heap = h0 := by rw [← hh, Bd.state]; rfl
  have N0 := Fr.nil n0
  have pre0 := own_pre (p := p) (e := e) (below := below) (s₁ := s₁) (ef2 m uc)
  have pre1 : own_P p e below (s₁.setTop (mkF m 4 #[oi uc] [(.int 255), (.int uc)])) (s₁.setTop (entryFrame m #[(.int uc)] 1)) := fun tZ kZ => pre0 tZ (by
    show Steps _ _ _ (s₁.setTop (mkF m 0 #[oi uc] [])) _
    refine XS.iloadN X0.here hx rfl (hb hby d2_0) rfl  ?_
    refine XS.sipush X0.here hx rfl (hb hby d2_1) ?_
    exact kZ)
  by_cases hc2 : (255 : Int32) < uc
  ·  -- yes
    obtain ⟨fsZ, hrZ, hrun, hended, hW, hsame⟩ := X0.leave (v := some (.int 0)) (fun h => by rw [Bd.returns] at h; cases h)
    refine ⟨_, _, pre1 _ ?_, hrun, hended, _, _, rfl, ?_, ⟨_, rfl⟩, hW, hsame.mono (by decide) (by decide)⟩
    · show Steps _ _ _ (s₁.setTop (mkF m 4 #[oi uc] [(.int 255), (.int uc)])) _
      refine XS.icmpYes X0.here hx rfl (pc0 := 4) (pc' := 11) rfl (hb hby d2_4) rfl (tlt hc2).2.2.1 (by decide) (by decide) ?_
      refine XS.iconst X0.here hx rfl (hb hby d2_11) ?_
      show Steps _ _ _ (s₁.setTop (mkF m 12 #[oi uc] [(.int 0)])) _
      exact retN X0 hx (t := .boolean) Bd.returns (by simp) (hb hby d2_12) hrZ
    · show Q2 Z uc h0 n0 _ s₁.heap _
      rw [e0]
      exact ⟨(congrArg (fun z => some (Value.int z)) (by first | rfl | (simp only [own_b, if_pos hc2]; done) | (simp only [own_b, eq_true hc2, and_true, true_and, and_false, false_and, or_true, true_or, or_false, false_or, not_true_eq_false, not_false_eq_true, if_true, if_false, reduceIte]; done) | (simp [own_b, hc2]; done))), N0, rfl⟩
  ·  -- no
    obtain ⟨fsZ, hrZ, hrun, hended, hW, hsame⟩ := X0.leave (v := some (.int 1)) (fun h => by rw [Bd.returns] at h; cases h)
    refine ⟨_, _, pre1 _ ?_, hrun, hended, _, _, rfl, ?_, ⟨_, rfl⟩, hW, hsame.mono (by decide) (by decide)⟩
    · show Steps _ _ _ (s₁.setTop (mkF m 4 #[oi uc] [(.int 255), (.int uc)])) _
      refine XS.icmpNo X0.here hx rfl (hb hby d2_4) rfl (flt hc2).2.2.1 ?_
      refine XS.iconst X0.here hx rfl (hb hby d2_7) ?_
      refine XS.goto X0.here hx rfl (pc0 := 8) (pc' := 12) rfl (hb hby d2_8) (by decide) (by decide) ?_
      show Steps _ _ _ (s₁.setTop (mkF m 12 #[oi uc] [(.int 1)])) _
      exact retN X0 hx (t := .boolean) Bd.returns (by simp) (hb hby d2_12) hrZ
    · show Q2 Z uc h0 n0 _ s₁.heap _
      rw [e0]
      exact ⟨(congrArg (fun z => some (Value.int z)) (by first | rfl | (simp only [own_b, if_neg hc2]; done) | (simp only [own_b, eq_false hc2, and_true, true_and, and_false, false_and, or_true, true_or, or_false, false_or, not_true_eq_false, not_false_eq_true, if_true, if_false, reduceIte]; done) | (simp [own_b, hc2]; done))), N0, rfl⟩
theorem pn1 : plainName "java/lang/StringUTF16" = true := by first | (simp [plainName, overriddenIn]; done) | decide +kernel
theorem d50_0 : decode zc1 0 = .ok (.aload_n 0, 1) := by decide +kernel
theorem d50_1 : decode zc1 1 = .ok (.arraylength, 1) := by decide +kernel
theorem d50_2 : decode zc1 2 = .ok (.iconst 1, 1) := by decide +kernel
theorem d50_3 : decode zc1 3 = .ok (.ishr, 1) := by decide +kernel
theorem d50_4 : decode zc1 4 = .ok (.ireturn, 1) := by decide +kernel
theorem ef50 (m : MethodId) (va : Addr) : entryFrame m #[(.ref va)] 1 = mkF m 0 #[oa va] [] := by first | (simp [entryFrame, mkF, argsToLocals, Value.category]; done) | rfl
def Q50 (Z : State) (va : Addr) (kv : ClassId) (z : Int32) (vs : List Value) (h0 : Heap) (n0 : Nat) (v : Option Value) (h : Heap) (L : List Loc) : Prop := v = some (.int (z >>> ((1 : Int32) &&& 31))) ∧ Fr n0 L ∧ h = h0
theorem rm50 (l : Launch) (Z : State) (a0 : Array Value) (hw : ∀ d ∈ tables_1, d.before a0 Z = true) (ws : List Jvm.Cond) (va : Addr) (kv : ClassId) (z : Int32) (vs : List Value) (h0 : Heap) (n0 : Nat) (Z0 : n0 ≤ h0.size) (Vx : Arv Z h0 va kv .byte z vs (.int 0)) :
    MetFree l oM1 (head1 (Jvm.Cond.code oM1 zc1 1 (some .int) :: ws) oR0) (fun a U => a = #[(.ref va)] ∧ Z.Warmed39 U.vm ∧ U.heap = h0) (fun _ _ _ _ _ => True) (fun _ U o U' => ∃ v L, o = .returned v ∧ Q50 Z va kv z vs h0 n0 v U'.heap L ∧ FrameEnd U o U' L oR0.cells oR0.slots) := by
  refine MetFree.of_bodySF (plainFor_of_name pn1) hisR ?_
  intro p e s m args below meth c s₁ Bd hml0 hP hK
  obtain ⟨rfl, hZ, hh⟩ := hP
  have hx := Bd.exec
  have hby := Bd.bytes
  have hml : c.maxLocals = 1 := hml0
  have hown : s.vm.findClass o6 = some m.cls := findClass_of_methodNamed Bd.named
  have X0 : Stand p l e oR0 s m #[(.ref va)] below meth c s₁ [] 0 0 := Stand.of_body Bd
  have e0 : s₁.heap = h0 := by rw [← hh, Bd.state]; rfl
  have N0 := Fr.nil n0
  have pre0 := own_pre (p := p) (e := e) (below := below) (s₁ := s₁) (ef50 m va)
  obtain ⟨c1, Arc1, -, Sc1, Mc1, -, -⟩ := id Vx
  obtain ⟨fsZ, hrZ, hrun, hended, hW, hsame⟩ := X0.leave (v := some (.int (z >>> ((1 : Int32) &&& 31)))) (fun h => by rw [Bd.returns] at h; cases h)
  refine ⟨_, _, pre0 _ ?_, hrun, hended, _, _, rfl, ?_, ⟨_, rfl⟩, hW, hsame.mono (by decide) (by decide)⟩
  · show Steps _ _ _ (s₁.setTop (mkF m 0 #[oa va] [])) _
    refine XS.aloadN X0.here hx rfl (hb hby d50_0) rfl rfl ?_
    show Steps _ _ _ (s₁.setTop (mkF m 1 #[oa va] [(.ref va)])) _
    refine X0.arraylength hx (by rw [e0]; exact Arc1.1) (State.isArrayOf_alike hZ.alike Arc1.2.1) (g := (mkF m 1 #[oa va] [(.ref va)])) rfl rfl (hb hby d50_1) _ ?_
    rw [len_of Sc1 Mc1]
    show Steps _ _ _ (s₁.setTop (mkF m 2 #[oa va] [(.int z)])) _
    refine XS.iconst X0.here hx rfl (hb hby d50_2) ?_
    refine XS.ishr X0.here hx rfl (hb hby d50_3) rfl ?_
    show Steps _ _ _ (s₁.setTop (mkF m 4 #[oa va] [(.int (z >>> ((1 : Int32) &&& 31)))])) _
    exact retI X0 hx Bd.returns (hb hby d50_4) hrZ
  · show Q50 Z va kv z vs h0 n0 _ s₁.heap _
    rw [e0]
    exact ⟨rfl, N0, rfl⟩
theorem pn2 : plainName "jdk/internal/util/Preconditions" = true := by first | (simp [plainName, overriddenIn]; done) | decide +kernel
theorem d39_0 : decode zc2 0 = .ok (.iload_n 0, 1) := by decide +kernel
theorem d39_1 : decode zc2 1 = .ok (.ifCond .lt 8, 3) := by decide +kernel
theorem d39_4 : decode zc2 4 = .ok (.iload_n 0, 1) := by decide +kernel
theorem d39_5 : decode zc2 5 = .ok (.iload_n 1, 1) := by decide +kernel
theorem d39_6 : decode zc2 6 = .ok (.if_icmp .lt 10, 3) := by decide +kernel
theorem d39_16 : decode zc2 16 = .ok (.iload_n 0, 1) := by decide +kernel
theorem d39_17 : decode zc2 17 = .ok (.ireturn, 1) := by decide +kernel
theorem ef39 (m : MethodId) (i : Int32) (n : Int32) (fm : Value) (hfm : fm.isRef = true) : entryFrame m #[(.int i), (.int n), fm] 3 = mkF m 0 #[oi i, oi n, .val fm] [] := by cases fm <;> first | (simp [Value.isRef] at hfm; done) | (simp [entryFrame, mkF, argsToLocals, Value.category]; done) | rfl
def Q39 (Z : State) (i : Int32) (n : Int32) (fm : Value) (h0 : Heap) (n0 : Nat) (v : Option Value) (h : Heap) (L : List Loc) : Prop := v = some (.int i) ∧ Fr n0 L ∧ h = h0
theorem rm39 (l : Launch) (Z : State) (a0 : Array Value) (hw : ∀ d ∈ tables_1, d.before a0 Z = true) (ws : List Jvm.Cond) (i : Int32) (n : Int32) (fm : Value) (h0 : Heap) (n0 : Nat) (Z0 : n0 ≤ h0.size) (hfm : fm.isRef = true) (hi0 : ¬ (i < (0 : Int32))) (hin : i < n) :
    MetFree l oM2 (head1 (Jvm.Cond.code oM2 zc2 3 (some .int) :: ws) oR0) (fun a U => a = #[(.int i), (.int n), fm] ∧ Z.Warmed39 U.vm ∧ U.heap = h0) (fun _ _ _ _ _ => True) (fun _ U o U' => ∃ v L, o = .returned v ∧ Q39 Z i n fm h0 n0 v U'.heap L ∧ FrameEnd U o U' L oR0.cells oR0.slots) := by
  refine MetFree.of_bodySF (plainFor_of_name pn2) hisR ?_
  intro p e s m args below meth c s₁ Bd hml0 hP hK
  obtain ⟨rfl, hZ, hh⟩ := hP
  have hx := Bd.exec
  have hby := Bd.bytes
  have hml : c.maxLocals = 3 := hml0
  have hown : s.vm.findClass "jdk/internal/util/Preconditions" = some m.cls := findClass_of_methodNamed Bd.named
  have X0 : Stand p l e oR0 s m #[(.int i), (.int n), fm] below meth c s₁ [] 0 0 := Stand.of_body Bd
  have e0 : s₁.heap = h0 := by rw [← hh, Bd.state]; rfl
  have N0 := Fr.nil n0
  have pre0 := own_pre (p := p) (e := e) (below := below) (s₁ := s₁) (ef39 m i n fm hfm)
  obtain ⟨fsZ, hrZ, hrun, hended, hW, hsame⟩ := X0.leave (v := some (.int i)) (fun h => by rw [Bd.returns] at h; cases h)
  refine ⟨_, _, pre0 _ ?_, hrun, hended, _, _, rfl, ?_, ⟨_, rfl⟩, hW, hsame.mono (by decide) (by decide)⟩
  · show Steps _ _ _ (s₁.setTop (mkF m 0 #[oi i, oi n, .val fm] [])) _
    refine XS.iloadN X0.here hx rfl (hb hby d39_0) rfl  ?_
    refine XS.ifNo X0.here hx rfl (hb hby d39_1) rfl ((if0 _ _).trans (flt hi0).1) ?_
    refine XS.iloadN X0.here hx rfl (hb hby d39_4) rfl  ?_
    refine XS.iloadN X0.here hx rfl (hb hby d39_5) rfl  ?_
    refine XS.icmpYes X0.here hx rfl (pc0 := 6) (pc' := 16) rfl (hb hby d39_6) rfl (tlt hin).1 (by decide) (by decide) ?_
    refine XS.iloadN X0.here hx rfl (hb hby d39_16) rfl  ?_
    show Steps _ _ _ (s₁.setTop (mkF m 17 #[oi i, oi n, .val fm] [(.int i)])) _
    exact retI X0 hx Bd.returns (hb hby d39_17) hrZ
  · show Q39 Z i n fm h0 n0 _ s₁.heap _
    rw [e0]
    exact ⟨rfl, N0, rfl⟩
theorem pn3 : plainName "java/lang/String" = true := by first | (simp [plainName, overriddenIn]; done) | decide +kernel
theorem d38_0 : decode zc3 0 = .ok (.iload_n 0, 1) := by decide +kernel
theorem d38_1 : decode zc3 1 = .ok (.iload_n 1, 1) := by decide +kernel
theorem d38_2 : decode zc3 2 = .ok (.getstatic 1053, 3) := by decide +kernel
theorem d38_5 : decode zc3 5 = .ok (.invokestatic 1059, 3) := by decide +kernel
theorem pd4 : parseMethodDescriptor "(IILjava/util/function/BiFunction;)I" = some ⟨[.int, .int, (.object "java/util/function/BiFunction")], some .int⟩ := by decide +kernel
theorem d38_8 : decode zc3 8 = .ok (.pop, 1) := by decide +kernel
theorem d38_9 : decode zc3 9 = .ok (.return_, 1) := by decide +kernel
theorem ef38 (m : MethodId) (i : Int32) (n : Int32) : entryFrame m #[(.int i), (.int n)] 2 = mkF m 0 #[oi i, oi n] [] := by first | (simp [entryFrame, mkF, argsToLocals, Value.category]; done) | rfl
def Q38 (Z : State) (i : Int32) (n : Int32) (fm : Value) (h0 : Heap) (n0 : Nat) (v : Option Value) (h : Heap) (L : List Loc) : Prop := v = none ∧ Fr n0 L ∧ h = h0
theorem rm38 (l : Launch) (Z : State) (a0 : Array Value) (hw : ∀ d ∈ tables_1, d.before a0 Z = true) (ws : List Jvm.Cond) (i : Int32) (n : Int32) (fm : Value) (h0 : Heap) (n0 : Nat) (Z0 : n0 ≤ h0.size) (Fm : Sta Z Z.heap "jdk/internal/util/Preconditions" "SIOOBE_FORMATTER" "Ljava/util/function/BiFunction;" fm) (hfm : fm.isRef = true) (Ox : Old Z n0 h0) (hi0 : ¬ (i < (0 : Int32))) (hin : i < n) :
    MetFree l oM3 (head1 (Jvm.Cond.code oM3 zc3 2 none :: ws) oR1) (fun a U => a = #[(.int i), (.int n)] ∧ Z.Warmed39 U.vm ∧ U.heap = h0) (fun _ _ _ _ _ => True) (fun _ U o U' => ∃ v L, o = .returned v ∧ Q38 Z i n fm h0 n0 v U'.heap L ∧ FrameEnd U o U' L oR1.cells oR1.slots) := by
  refine MetFree.of_bodySF (plainFor_of_name pn3) hisR ?_
  intro p e s m args below meth c s₁ Bd hml0 hP hK
  obtain ⟨rfl, hZ, hh⟩ := hP
  have hx := Bd.exec
  have hby := Bd.bytes
  have hml : c.maxLocals = 2 := hml0
  have hown : s.vm.findClass oS = some m.cls := findClass_of_methodNamed Bd.named
  have X0 : Stand p l e oR1 s m #[(.int i), (.int n)] below meth c s₁ [] 0 0 := Stand.of_body Bd
  have e0 : s₁.heap = h0 := by rw [← hh, Bd.state]; rfl
  have N0 := Fr.nil n0
  have pre0 := own_pre (p := p) (e := e) (below := below) (s₁ := s₁) (ef38 m i n)
  obtain ⟨T1, X1, e1, st1⟩ := getS2 X0 hx hZ hown (host := "") (Or.inl (ow hw 201 rfl)) Via.refl e0 (Fm.ext Ox.2) (g := (mkF m 2 #[oi i, oi n] [(.int n), (.int i)])) rfl (hb hby d38_2)
  obtain ⟨_, _, ⟨T2, L2, k2, n2⟩, -, X2, ⟨Lc2, hQ2, l2, y2, z2⟩, st2⟩ := Jvm.LawKit.callS X1 hx (y := oM2) hown (mvT hZ (ow hw 203 rfl)) (mvT hZ (ow hw 204 rfl)) (mvT hZ (ow hw 202 rfl)) (mvT hZ (ow hw 205 rfl)) (by decide) (backOf (W := 0) (rm39 l Z a0 hw [] i n fm h0 n0 Z0 hfm hi0 hin) hZ (ow hw 205 rfl) (ow hw 202 rfl) (by decide) (by decide)) (g := (mkF m 5 #[oi i, oi n] [fm, (.int n), (.int i)])) rfl (by rw [hml]; rfl) (argsL := [(.int i), (.int n), fm]) (rest := []) (lenOf pd4 rfl) rfl (Nat.le_of_eq rfl) (hb hby d38_5) (fun _ _ => ⟨rfl, e1, (by decide : 0 + 0 ≤ _), (by decide : 0 + 0 ≤ _)⟩)
  dsimp only [Pt.U, Pt.locs, Pt.cells, Pt.slots] at X2 l2 y2 z2 st2 hQ2
  subst l2 y2 z2
  obtain ⟨rfl, N2q, e2⟩ := hQ2
  have N2 := Fr.app N0 N2q
  obtain ⟨fsZ, hrZ, hrun, hended, hW, hsame⟩ := X2.leave (v := none) (fun _ => rfl)
  refine ⟨_, _, pre0 _ ?_, hrun, hended, _, _, rfl, ?_, ⟨_, rfl⟩, hW, hsame.mono (by decide) (by decide)⟩
  · show Steps _ _ _ (s₁.setTop (mkF m 0 #[oi i, oi n] [])) _
    refine XS.iloadN X0.here hx rfl (hb hby d38_0) rfl  ?_
    refine XS.iloadN X0.here hx rfl (hb hby d38_1) rfl  ?_
    refine st1 _ ?_
    refine st2 _ ?_
    refine XS.pop X2.here hx rfl (hb hby d38_8) rfl rfl ?_
    show Steps _ _ _ (T2.setTop (mkF m 9 #[oi i, oi n] [])) _
    exact X2.returnOut hx Bd.returns (hb hby d38_9) hrZ
  · show Q38 Z i n fm h0 n0 _ T2.heap _
    rw [e2]
    exact ⟨rfl, N2, rfl⟩
theorem d52_0 : decode zc4 0 = .ok (.iload_n 2, 1) := by decide +kernel
theorem d52_1 : decode zc4 1 = .ok (.iload_n 0, 1) := by decide +kernel
theorem d52_2 : decode zc4 2 = .ok (.ior, 1) := by decide +kernel
theorem d52_3 : decode zc4 3 = .ok (.iload_n 1, 1) := by decide +kernel
theorem d52_4 : decode zc4 4 = .ok (.ior, 1) := by decide +kernel
theorem d52_5 : decode zc4 5 = .ok (.ifCond .lt 10, 3) := by decide +kernel
theorem d52_8 : decode zc4 8 = .ok (.iload_n 1, 1) := by decide +kernel
theorem d52_9 : decode zc4 9 = .ok (.iload_n 2, 1) := by decide +kernel
theorem d52_10 : decode zc4 10 = .ok (.iload_n 0, 1) := by decide +kernel
theorem d52_11 : decode zc4 11 = .ok (.isub, 1) := by decide +kernel
theorem d52_12 : decode zc4 12 = .ok (.if_icmp .le 11, 3) := by decide +kernel
theorem d52_23 : decode zc4 23 = .ok (.iload_n 0, 1) := by decide +kernel
theorem d52_24 : decode zc4 24 = .ok (.ireturn, 1) := by decide +kernel
theorem ef52 (m : MethodId) (of : Int32) (n : Int32) (ln : Int32) (fm : Value) (hfm : fm.isRef = true) : entryFrame m #[(.int of), (.int n), (.int ln), fm] 4 = mkF m 0 #[oi of, oi n, oi ln, .val fm] [] := by cases fm <;> first | (simp [Value.isRef] at hfm; done) | (simp [entryFrame, mkF, argsToLocals, Value.category]; done) | rfl
def Q52 (Z : State) (of : Int32) (n : Int32) (ln : Int32) (fm : Value) (h0 : Heap) (n0 : Nat) (v : Option Value) (h : Heap) (L : List Loc) : Prop := v = some (.int of) ∧ Fr n0 L ∧ h = h0
theorem rm52 (l : Launch) (Z : State) (a0 : Array Value) (hw : ∀ d ∈ tables_1, d.before a0 Z = true) (ws : List Jvm.Cond) (of : Int32) (n : Int32) (ln : Int32) (fm : Value) (h0 : Heap) (n0 : Nat) (Z0 : n0 ≤ h0.size) (hfm : fm.isRef = true) (ho : ¬ (((ln ||| of) ||| n) < (0 : Int32))) (hl : ¬ ((ln - of) < n)) :
    MetFree l oM4 (head1 (Jvm.Cond.code oM4 zc4 4 (some .int) :: ws) oR0) (fun a U => a = #[(.int of), (.int n), (.int ln), fm] ∧ Z.Warmed39 U.vm ∧ U.heap = h0) (fun _ _ _ _ _ => True) (fun _ U o U' => ∃ v L, o = .returned v ∧ Q52 Z of n ln fm h0 n0 v U'.heap L ∧ FrameEnd U o U' L oR0.cells oR0.slots) := by
  refine MetFree.of_bodySF (plainFor_of_name pn2) hisR ?_
  intro p e s m args below meth c s₁ Bd hml0 hP hK
  obtain ⟨rfl, hZ, hh⟩ := hP
  have hx := Bd.exec
  have hby := Bd.bytes
  have hml : c.maxLocals = 4 := hml0
  have hown : s.vm.findClass "jdk/internal/util/Preconditions" = some m.cls := findClass_of_methodNamed Bd.named
  have X0 : Stand p l e oR0 s m #[(.int of), (.int n), (.int ln), fm] below meth c s₁ [] 0 0 := Stand.of_body Bd
  have e0 : s₁.heap = h0 := by rw [← hh, Bd.state]; rfl
  have N0 := Fr.nil n0
  have pre0 := own_pre (p := p) (e := e) (below := below) (s₁ := s₁) (ef52 m of n ln fm hfm)
  obtain ⟨fsZ, hrZ, hrun, hended, hW, hsame⟩ := X0.leave (v := some (.int of)) (fun h => by rw [Bd.returns] at h; cases h)
  refine ⟨_, _, pre0 _ ?_, hrun, hended, _, _, rfl, ?_, ⟨_, rfl⟩, hW, hsame.mono (by decide) (by decide)⟩
  · show Steps _ _ _ (s₁.setTop (mkF m 0 #[oi of, oi n, oi ln, .val fm] [])) _
    refine XS.iloadN X0.here hx rfl (hb hby d52_0) rfl  ?_
    refine XS.iloadN X0.here hx rfl (hb hby d52_1) rfl  ?_
    refine XS.ior X0.here hx rfl (hb hby d52_2) rfl ?_
    refine XS.iloadN X0.here hx rfl (hb hby d52_3) rfl  ?_
    refine XS.ior X0.here hx rfl (hb hby d52_4) rfl ?_
    refine XS.ifNo X0.here hx rfl (hb hby d52_5) rfl ((if0 _ _).trans (flt ho).1) ?_
    refine XS.iloadN X0.here hx rfl (hb hby d52_8) rfl  ?_
    refine XS.iloadN X0.here hx rfl (hb hby d52_9) rfl  ?_
    show Steps _ _ _ (s₁.setTop (mkF m 10 #[oi of, oi n, oi ln, .val fm] [(.int ln), (.int n)])) _
    refine XS.iloadN X0.here hx rfl (hb hby d52_10) rfl  ?_
    refine XS.isub X0.here hx rfl (hb hby d52_11) rfl ?_
    refine XS.icmpYes X0.here hx rfl (pc0 := 12) (pc' := 23) rfl (hb hby d52_12) rfl (flt hl).2.2.2 (by decide) (by decide) ?_
    refine XS.iloadN X0.here hx rfl (hb hby d52_23) rfl  ?_
    show Steps _ _ _ (s₁.setTop (mkF m 24 #[oi of, oi n, oi ln, .val fm] [(.int of)])) _
    exact retI X0 hx Bd.returns (hb hby d52_24) hrZ
  · show Q52 Z of n ln fm h0 n0 _ s₁.heap _
    rw [e0]
    exact ⟨rfl, N0, rfl⟩
theorem d51_0 : decode zc5 0 = .ok (.iload_n 0, 1) := by decide +kernel
theorem d51_1 : decode zc5 1 = .ok (.iload_n 1, 1) := by decide +kernel
theorem d51_2 : decode zc5 2 = .ok (.iload_n 2, 1) := by decide +kernel
theorem d51_3 : decode zc5 3 = .ok (.getstatic 1053, 3) := by decide +kernel
theorem d51_6 : decode zc5 6 = .ok (.invokestatic 1065, 3) := by decide +kernel
theorem pd5 : parseMethodDescriptor "(IIILjava/util/function/BiFunction;)I" = some ⟨[.int, .int, .int, (.object "java/util/function/BiFunction")], some .int⟩ := by decide +kernel
theorem d51_9 : decode zc5 9 = .ok (.ireturn, 1) := by decide +kernel
theorem ef51 (m : MethodId) (of : Int32) (n : Int32) (ln : Int32) : entryFrame m #[(.int of), (.int n), (.int ln)] 3 = mkF m 0 #[oi of, oi n, oi ln] [] := by first | (simp [entryFrame, mkF, argsToLocals, Value.category]; done) | rfl
def Q51 (Z : State) (of : Int32) (n : Int32) (ln : Int32) (fm : Value) (h0 : Heap) (n0 : Nat) (v : Option Value) (h : Heap) (L : List Loc) : Prop := v = some (.int of) ∧ Fr n0 L ∧ h = h0
theorem rm51 (l : Launch) (Z : State) (a0 : Array Value) (hw : ∀ d ∈ tables_1, d.before a0 Z = true) (ws : List Jvm.Cond) (of : Int32) (n : Int32) (ln : Int32) (fm : Value) (h0 : Heap) (n0 : Nat) (Z0 : n0 ≤ h0.size) (Fm : Sta Z Z.heap "jdk/internal/util/Preconditions" "SIOOBE_FORMATTER" "Ljava/util/function/BiFunction;" fm) (hfm : fm.isRef = true) (Ox : Old Z n0 h0) (ho : ¬ (((ln ||| of) ||| n) < (0 : Int32))) (hl : ¬ ((ln - of) < n)) :
    MetFree l oM5 (head1 (Jvm.Cond.code oM5 zc5 3 (some .int) :: ws) oR2) (fun a U => a = #[(.int of), (.int n), (.int ln)] ∧ Z.Warmed39 U.vm ∧ U.heap = h0) (fun _ _ _ _ _ => True) (fun _ U o U' => ∃ v L, o = .returned v ∧ Q51 Z of n ln fm h0 n0 v U'.heap L ∧ FrameEnd U o U' L oR2.cells oR2.slots) := by
  refine MetFree.of_bodySF (plainFor_of_name pn3) hisR ?_
  intro p e s m args below meth c s₁ Bd hml0 hP hK
  obtain ⟨rfl, hZ, hh⟩ := hP
  have hx := Bd.exec
  have hby := Bd.bytes
  have hml : c.maxLocals = 3 := hml0
  have hown : s.vm.findClass oS = some m.cls := findClass_of_methodNamed Bd.named
  have X0 : Stand p l e oR2 s m #[(.int of), (.int n), (.int ln)] below meth c s₁ [] 0 0 := Stand.of_body Bd
  have e0 : s₁.heap = h0 := by rw [← hh, Bd.state]; rfl
  have N0 := Fr.nil n0
  have pre0 := own_pre (p := p) (e := e) (below := below) (s₁ := s₁) (ef51 m of n ln)
  obtain ⟨T1, X1, e1, st1⟩ := getS2 X0 hx hZ hown (host := "") (Or.inl (ow hw 201 rfl)) Via.refl e0 (Fm.ext Ox.2) (g := (mkF m 3 #[oi of, oi n, oi ln] [(.int ln), (.int n), (.int of)])) rfl (hb hby d51_3)
  obtain ⟨_, _, ⟨T2, L2, k2, n2⟩, -, X2, ⟨Lc2, hQ2, l2, y2, z2⟩, st2⟩ := Jvm.LawKit.callS X1 hx (y := oM4) hown (mvT hZ (ow hw 250 rfl)) (mvT hZ (ow hw 251 rfl)) (mvT hZ (ow hw 202 rfl)) (mvT hZ (ow hw 252 rfl)) (by decide) (backOf (W := 0) (rm52 l Z a0 hw [] of n ln fm h0 n0 Z0 hfm ho hl) hZ (ow hw 252 rfl) (ow hw 202 rfl) (by decide) (by decide)) (g := (mkF m 6 #[oi of, oi n, oi ln] [fm, (.int ln), (.int n), (.int of)])) rfl (by rw [hml]; rfl) (argsL := [(.int of), (.int n), (.int ln), fm]) (rest := []) (lenOf pd5 rfl) rfl (Nat.le_of_eq rfl) (hb hby d51_6) (fun _ _ => ⟨rfl, e1, (by decide : 0 + 0 ≤ _), (by decide : 0 + 0 ≤ _)⟩)
  dsimp only [Pt.U, Pt.locs, Pt.cells, Pt.slots] at X2 l2 y2 z2 st2 hQ2
  subst l2 y2 z2
  obtain ⟨rfl, N2q, e2⟩ := hQ2
  have N2 := Fr.app N0 N2q
  obtain ⟨fsZ, hrZ, hrun, hended, hW, hsame⟩ := X2.leave (v := some (.int of)) (fun h => by rw [Bd.returns] at h; cases h)
  refine ⟨_, _, pre0 _ ?_, hrun, hended, _, _, rfl, ?_, ⟨_, rfl⟩, hW, hsame.mono (by decide) (by decide)⟩
  · show Steps _ _ _ (s₁.setTop (mkF m 0 #[oi of, oi n, oi ln] [])) _
    refine XS.iloadN X0.here hx rfl (hb hby d51_0) rfl  ?_
    refine XS.iloadN X0.here hx rfl (hb hby d51_1) rfl  ?_
    refine XS.iloadN X0.here hx rfl (hb hby d51_2) rfl  ?_
    refine st1 _ ?_
    refine st2 _ ?_
    show Steps _ _ _ (T2.setTop (mkF m 9 #[oi of, oi n, oi ln] [(.int of)])) _
    exact retI X2 hx Bd.returns (hb hby d51_9) hrZ
  · show Q51 Z of n ln fm h0 n0 _ T2.heap _
    rw [e2]
    exact ⟨rfl, N2, rfl⟩
theorem d49_0 : decode zc6 0 = .ok (.iload_n 0, 1) := by decide +kernel
theorem d49_1 : decode zc6 1 = .ok (.iload_n 1, 1) := by decide +kernel
theorem d49_2 : decode zc6 2 = .ok (.aload_n 2, 1) := by decide +kernel
theorem d49_3 : decode zc6 3 = .ok (.invokestatic 48, 3) := by decide +kernel
theorem pd6 : parseMethodDescriptor "([B)I" = some ⟨[(.array .byte)], some .int⟩ := by decide +kernel
theorem d49_6 : decode zc6 6 = .ok (.invokestatic 419, 3) := by decide +kernel
theorem pd7 : parseMethodDescriptor "(III)I" = some ⟨[.int, .int, .int], some .int⟩ := by decide +kernel
theorem d49_9 : decode zc6 9 = .ok (.pop, 1) := by decide +kernel
theorem d49_10 : decode zc6 10 = .ok (.return_, 1) := by decide +kernel
theorem ef49 (m : MethodId) (of : Int32) (n : Int32) (va : Addr) : entryFrame m #[(.int of), (.int n), (.ref va)] 3 = mkF m 0 #[oi of, oi n, oa va] [] := by first | (simp [entryFrame, mkF, argsToLocals, Value.category]; done) | rfl
def Q49 (Z : State) (of : Int32) (n : Int32) (va : Addr) (kv : ClassId) (z : Int32) (vs : List Value) (fm : Value) (h0 : Heap) (n0 : Nat) (v : Option Value) (h : Heap) (L : List Loc) : Prop := v = none ∧ Fr n0 L ∧ h = h0
theorem rm49 (l : Launch) (Z : State) (a0 : Array Value) (hw : ∀ d ∈ tables_1, d.before a0 Z = true) (ws : List Jvm.Cond) (of : Int32) (n : Int32) (va : Addr) (kv : ClassId) (z : Int32) (vs : List Value) (fm : Value) (h0 : Heap) (n0 : Nat) (Z0 : n0 ≤ h0.size) (Vx : Arv Z h0 va kv .byte z vs (.int 0)) (Fm : Sta Z Z.heap "jdk/internal/util/Preconditions" "SIOOBE_FORMATTER" "Ljava/util/function/BiFunction;" fm) (hfm : fm.isRef = true) (Ox : Old Z n0 h0) (ho : ¬ ((((z >>> ((1 : Int32) &&& 31)) ||| of) ||| n) < (0 : Int32))) (hl : ¬ (((z >>> ((1 : Int32) &&& 31)) - of) < n)) :
    MetFree l oM6 (head1 (Jvm.Cond.code oM6 zc6 3 none :: ws) oR3) (fun a U => a = #[(.int of), (.int n), (.ref va)] ∧ Z.Warmed39 U.vm ∧ U.heap = h0) (fun _ _ _ _ _ => True) (fun _ U o U' => ∃ v L, o = .returned v ∧ Q49 Z of n va kv z vs fm h0 n0 v U'.heap L ∧ FrameEnd U o U' L oR3.cells oR3.slots) := by
  refine MetFree.of_bodySF (plainFor_of_name pn1) hisR ?_
  intro p e s m args below meth c s₁ Bd hml0 hP hK
  obtain ⟨rfl, hZ, hh⟩ := hP
  have hx := Bd.exec
  have hby := Bd.bytes
  have hml : c.maxLocals = 3 := hml0
  have hown : s.vm.findClass o6 = some m.cls := findClass_of_methodNamed Bd.named
  have X0 : Stand p l e oR3 s m #[(.int of), (.int n), (.ref va)] below meth c s₁ [] 0 0 := Stand.of_body Bd
  have e0 : s₁.heap = h0 := by rw [← hh, Bd.state]; rfl
  have N0 := Fr.nil n0
  have pre0 := own_pre (p := p) (e := e) (below := below) (s₁ := s₁) (ef49 m of n va)
  obtain ⟨_, _, ⟨T1, L1, k1, n1⟩, -, X1, ⟨Lc1, hQ1, l1, y1, z1⟩, st1⟩ := Jvm.LawKit.callS X0 hx (y := oM1) hown (mvT hZ (ow hw 244 rfl)) (mvT hZ (ow hw 245 rfl)) (mvT hZ (ow hw 37 rfl)) (mvT hZ (ow hw 246 rfl)) (by decide) (backOf (W := 2) (rm50 l Z a0 hw [] va kv z vs h0 n0 Z0 Vx) hZ (ow hw 246 rfl) (ow hw 37 rfl) (by decide) (by decide)) (g := (mkF m 3 #[oi of, oi n, oa va] [(.ref va), (.int n), (.int of)])) rfl (by rw [hml]; rfl) (argsL := [(.ref va)]) (rest := [(.int n), (.int of)]) (lenOf pd6 rfl) rfl (Nat.le_of_eq rfl) (hb hby d49_3) (fun _ _ => ⟨rfl, e0, (by decide : 0 + 0 ≤ _), (by decide : 0 + 0 ≤ _)⟩)
  dsimp only [Pt.U, Pt.locs, Pt.cells, Pt.slots] at X1 l1 y1 z1 st1 hQ1
  subst l1 y1 z1
  obtain ⟨rfl, N1q, e1⟩ := hQ1
  have N1 := Fr.app N0 N1q
  obtain ⟨_, _, ⟨T2, L2, k2, n2⟩, -, X2, ⟨Lc2, hQ2, l2, y2, z2⟩, st2⟩ := Jvm.LawKit.callS X1 hx (y := oM5) hown (mvT hZ (ow hw 247 rfl)) (mvT hZ (ow hw 248 rfl)) (mvT hZ (ow hw 3 rfl)) (mvT hZ (ow hw 249 rfl)) (by decide) (backOf (W := 0) (rm51 l Z a0 hw [] of n (z >>> ((1 : Int32) &&& 31)) fm h0 n0 Z0 Fm hfm Ox ho hl) hZ (ow hw 249 rfl) (ow hw 3 rfl) (by decide) (by decide)) (g := (mkF m 6 #[oi of, oi n, oa va] [(.int (z >>> ((1 : Int32) &&& 31))), (.int n), (.int of)])) rfl (by rw [hml]; rfl) (argsL := [(.int of), (.int n), (.int (z >>> ((1 : Int32) &&& 31)))]) (rest := []) (lenOf pd7 rfl) rfl (Nat.le_of_eq rfl) (hb hby d49_6) (fun _ _ => ⟨rfl, e1, (by decide : 0 + 0 ≤ _), (by decide : 0 + 0 ≤ _)⟩)
  dsimp only [Pt.U, Pt.locs, Pt.cells, Pt.slots] at X2 l2 y2 z2 st2 hQ2
  subst l2 y2 z2
  obtain ⟨rfl, N2q, e2⟩ := hQ2
  have N2 := Fr.app N1 N2q
  obtain ⟨fsZ, hrZ, hrun, hended, hW, hsame⟩ := X2.leave (v := none) (fun _ => rfl)
  refine ⟨_, _, pre0 _ ?_, hrun, hended, _, _, rfl, ?_, ⟨_, rfl⟩, hW, hsame.mono (by decide) (by decide)⟩
  · show Steps _ _ _ (s₁.setTop (mkF m 0 #[oi of, oi n, oa va] [])) _
    refine XS.iloadN X0.here hx rfl (hb hby d49_0) rfl  ?_
    refine XS.iloadN X0.here hx rfl (hb hby d49_1) rfl  ?_
    refine XS.aloadN X0.here hx rfl (hb hby d49_2) rfl rfl ?_
    refine st1 _ ?_
    refine st2 _ ?_
    refine XS.pop X2.here hx rfl (hb hby d49_9) rfl rfl ?_
    show Steps _ _ _ (T2.setTop (mkF m 10 #[oi of, oi n, oa va] [])) _
    exact X2.returnOut hx Bd.returns (hb hby d49_10) hrZ
  · show Q49 Z of n va kv z vs fm h0 n0 _ T2.heap _
    rw [e2]
    exact ⟨rfl, N2, rfl⟩
theorem d54_0 : decode zc7 0 = .ok (.iload_n 0, 1) := by decide +kernel
theorem d54_1 : decode zc7 1 = .ok (.aload_n 1, 1) := by decide +kernel
theorem d54_2 : decode zc7 2 = .ok (.invokestatic 48, 3) := by decide +kernel
theorem d54_5 : decode zc7 5 = .ok (.invokestatic 414, 3) := by decide +kernel
theorem pd8 : parseMethodDescriptor "(II)V" = some ⟨[.int, .int], none⟩ := by decide +kernel
theorem d54_8 : decode zc7 8 = .ok (.return_, 1) := by decide +kernel
theorem ef54 (m : MethodId) (i : Int32) (va : Addr) : entryFrame m #[(.int i), (.ref va)] 2 = mkF m 0 #[oi i, oa va] [] := by first | (simp [entryFrame, mkF, argsToLocals, Value.category]; done) | rfl
def Q54 (Z : State) (i : Int32) (va : Addr) (kv : ClassId) (z : Int32) (vs : List Value) (fm : Value) (h0 : Heap) (n0 : Nat) (v : Option Value) (h : Heap) (L : List Loc) : Prop := v = none ∧ Fr n0 L ∧ h = h0
theorem rm54 (l : Launch) (Z : State) (a0 : Array Value) (hw : ∀ d ∈ tables_1, d.before a0 Z = true) (ws : List Jvm.Cond) (i : Int32) (va : Addr) (kv : ClassId) (z : Int32) (vs : List Value) (fm : Value) (h0 : Heap) (n0 : Nat) (Z0 : n0 ≤ h0.size) (Vx : Arv Z h0 va kv .byte z vs (.int 0)) (Fm : Sta Z Z.heap "jdk/internal/util/Preconditions" "SIOOBE_FORMATTER" "Ljava/util/function/BiFunction;" fm) (hfm : fm.isRef = true) (Ox : Old Z n0 h0) (hi0 : ¬ (i < (0 : Int32))) (hin : i < (z >>> ((1 : Int32) &&& 31))) :
    MetFree l oM7 (head1 (Jvm.Cond.code oM7 zc7 2 none :: ws) oR4) (fun a U => a = #[(.int i), (.ref va)] ∧ Z.Warmed39 U.vm ∧ U.heap = h0) (fun _ _ _ _ _ => True) (fun _ U o U' => ∃ v L, o = .returned v ∧ Q54 Z i va kv z vs fm h0 n0 v U'.heap L ∧ FrameEnd U o U' L oR4.cells oR4.slots) := by
  refine MetFree.of_bodySF (plainFor_of_name pn1) hisR ?_
  intro p e s m args below meth c s₁ Bd hml0 hP hK
  obtain ⟨rfl, hZ, hh⟩ := hP
  have hx := Bd.exec
  have hby := Bd.bytes
  have hml : c.maxLocals = 2 := hml0
  have hown : s.vm.findClass o6 = some m.cls := findClass_of_methodNamed Bd.named
  have X0 : Stand p l e oR4 s m #[(.int i), (.ref va)] below meth c s₁ [] 0 0 := Stand.of_body Bd
  have e0 : s₁.heap = h0 := by rw [← hh, Bd.state]; rfl
  have N0 := Fr.nil n0
  have pre0 := own_pre (p := p) (e := e) (below := below) (s₁ := s₁) (ef54 m i va)
  obtain ⟨_, _, ⟨T1, L1, k1, n1⟩, -, X1, ⟨Lc1, hQ1, l1, y1, z1⟩, st1⟩ := Jvm.LawKit.callS X0 hx (y := oM1) hown (mvT hZ (ow hw 244 rfl)) (mvT hZ (ow hw 245 rfl)) (mvT hZ (ow hw 37 rfl)) (mvT hZ (ow hw 246 rfl)) (by decide) (backOf (W := 1) (rm50 l Z a0 hw [] va kv z vs h0 n0 Z0 Vx) hZ (ow hw 246 rfl) (ow hw 37 rfl) (by decide) (by decide)) (g := (mkF m 2 #[oi i, oa va] [(.ref va), (.int i)])) rfl (by rw [hml]; rfl) (argsL := [(.ref va)]) (rest := [(.int i)]) (lenOf pd6 rfl) rfl (Nat.le_of_eq rfl) (hb hby d54_2) (fun _ _ => ⟨rfl, e0, (by decide : 0 + 0 ≤ _), (by decide : 0 + 0 ≤ _)⟩)
  dsimp only [Pt.U, Pt.locs, Pt.cells, Pt.slots] at X1 l1 y1 z1 st1 hQ1
  subst l1 y1 z1
  obtain ⟨rfl, N1q, e1⟩ := hQ1
  have N1 := Fr.app N0 N1q
  obtain ⟨_, _, ⟨T2, L2, k2, n2⟩, -, X2, ⟨Lc2, hQ2, l2, y2, z2⟩, st2⟩ := Jvm.LawKit.callS X1 hx (y := oM3) hown (mvT hZ (ow hw 263 rfl)) (mvT hZ (ow hw 199 rfl)) (mvT hZ (ow hw 3 rfl)) (mvT hZ (ow hw 200 rfl)) (by decide) (backOf (W := 0) (rm38 l Z a0 hw [] i (z >>> ((1 : Int32) &&& 31)) fm h0 n0 Z0 Fm hfm Ox hi0 hin) hZ (ow hw 200 rfl) (ow hw 3 rfl) (by decide) (by decide)) (g := (mkF m 5 #[oi i, oa va] [(.int (z >>> ((1 : Int32) &&& 31))), (.int i)])) rfl (by rw [hml]; rfl) (argsL := [(.int i), (.int (z >>> ((1 : Int32) &&& 31)))]) (rest := []) (lenOf pd8 rfl) rfl (Nat.le_of_eq rfl) (hb hby d54_5) (fun _ _ => ⟨rfl, e1, (by decide : 0 + 0 ≤ _), (by decide : 0 + 0 ≤ _)⟩)
  dsimp only [Pt.U, Pt.locs, Pt.cells, Pt.slots] at X2 l2 y2 z2 st2 hQ2
  subst l2 y2 z2
  obtain ⟨rfl, N2q, e2⟩ := hQ2
  have N2 := Fr.app N1 N2q
  obtain ⟨fsZ, hrZ, hrun, hended, hW, hsame⟩ := X2.leave (v := none) (fun _ => rfl)
  refine ⟨_, _, pre0 _ ?_, hrun, hended, _, _, rfl, ?_, ⟨_, rfl⟩, hW, hsame.mono (by decide) (by decide)⟩
  · show Steps _ _ _ (s₁.setTop (mkF m 0 #[oi i, oa va] [])) _
    refine XS.iloadN X0.here hx rfl (hb hby d54_0) rfl  ?_
    refine XS.aloadN X0.here hx rfl (hb hby d54_1) rfl rfl ?_
    refine st1 _ ?_
    refine st2 _ ?_
    show Steps _ _ _ (T2.setTop (mkF m 8 #[oi i, oa va] [])) _
    exact X2.returnOut hx Bd.returns (hb hby d54_8) hrZ
  · show Q54 Z i va kv z vs fm h0 n0 _ T2.heap _
    rw [e2]
    exact ⟨rfl, N2, rfl⟩
theorem d41_0 : decode zc8 0 = .ok (.getstatic 44, 3) := by decide +kernel
theorem d41_3 : decode zc8 3 = .ok (.ifCond .ne 25, 3) := by decide +kernel
theorem d41_28 : decode zc8 28 = .ok (.iload_n 1, 1) := by decide +kernel
theorem d41_29 : decode zc8 29 = .ok (.iconst 1, 1) := by decide +kernel
theorem d41_30 : decode zc8 30 = .ok (.ishl, 1) := by decide +kernel
theorem d41_31 : decode zc8 31 = .ok (.istore_n 1, 1) := by decide +kernel
theorem d41_32 : decode zc8 32 = .ok (.aload_n 0, 1) := by decide +kernel
theorem d41_33 : decode zc8 33 = .ok (.iload_n 1, 1) := by decide +kernel
theorem d41_34 : decode zc8 34 = .ok (.iinc 1 1, 3) := by decide +kernel
theorem d41_37 : decode zc8 37 = .ok (.iload_n 2, 1) := by decide +kernel
theorem d41_38 : decode zc8 38 = .ok (.getstatic 59, 3) := by decide +kernel
theorem d41_41 : decode zc8 41 = .ok (.ishr, 1) := by decide +kernel
theorem d41_42 : decode zc8 42 = .ok (.i2b, 1) := by decide +kernel
theorem d41_43 : decode zc8 43 = .ok (.bastore, 1) := by decide +kernel
theorem d41_44 : decode zc8 44 = .ok (.aload_n 0, 1) := by decide +kernel
theorem d41_45 : decode zc8 45 = .ok (.iload_n 1, 1) := by decide +kernel
theorem d41_46 : decode zc8 46 = .ok (.iload_n 2, 1) := by decide +kernel
theorem d41_47 : decode zc8 47 = .ok (.getstatic 63, 3) := by decide +kernel
theorem d41_50 : decode zc8 50 = .ok (.ishr, 1) := by decide +kernel
theorem d41_51 : decode zc8 51 = .ok (.i2b, 1) := by decide +kernel
theorem d41_52 : decode zc8 52 = .ok (.bastore, 1) := by decide +kernel
theorem d41_53 : decode zc8 53 = .ok (.return_, 1) := by decide +kernel
theorem ef41 (m : MethodId) (va : Addr) (i : Int32) (uc : Int32) : entryFrame m #[(.ref va), (.int i), (.int uc)] 3 = mkF m 0 #[oa va, oi i, oi uc] [] := by first | (simp [entryFrame, mkF, argsToLocals, Value.category]; done) | rfl
def Q41 (Z : State) (va : Addr) (i : Int32) (uc : Int32) (kv : ClassId) (z : Int32) (vs : List Value) (h0 : Heap) (n0 : Nat) (v : Option Value) (h : Heap) (L : List Loc) : Prop := v = none ∧ Fr n0 L ∧ Keep h0 h [va] ∧ Arv Z h va kv .byte z ((vs ++ [.int (uc.toInt8.toInt32)]) ++ [.int (own_hi uc)]) (.int 0)
theorem rm41 (l : Launch) (Z : State) (a0 : Array Value) (hw : ∀ d ∈ tables_1, d.before a0 Z = true) (ws : List Jvm.Cond) (va : Addr) (i : Int32) (uc : Int32) (kv : ClassId) (z : Int32) (vs : List Value) (h0 : Heap) (n0 : Nat) (Z0 : n0 ≤ h0.size) (Vx : Arv Z h0 va kv .byte z vs (.int 0)) (gx : n0 ≤ va) (Ox : Old Z n0 h0) (Ua : Sta Z Z.heap o6 "$assertionsDisabled" "Z" (.int 1)) (Uh : Sta Z Z.heap o6 "HI_BYTE_SHIFT" "I" (.int 0)) (Ul : Sta Z Z.heap o6 "LO_BYTE_SHIFT" "I" (.int 8)) (hi0 : ¬ (i < (0 : Int32))) (hiz : 2 * i.toInt + 1 < z.toInt) (hvl : 2 * i.toNatClampNeg = vs.length) :
    MetFree l oM8 (head1 (Jvm.Cond.code oM8 zc8 3 none :: ws) oR0) (fun a U => a = #[(.ref va), (.int i), (.int uc)] ∧ Z.Warmed39 U.vm ∧ U.heap = h0) (fun _ _ _ _ _ => True) (fun _ U o U' => ∃ v L, o = .returned v ∧ Q41 Z va i uc kv z vs h0 n0 v U'.heap L ∧ FrameEnd U o U' L oR0.cells oR0.slots) := by
  refine MetFree.of_bodySF (plainFor_of_name pn1) hisR ?_
  intro p e s m args below meth c s₁ Bd hml0 hP hK
  obtain ⟨rfl, hZ, hh⟩ := hP
  have hx := Bd.exec
  have hby := Bd.bytes
  have hml : c.maxLocals = 3 := hml0
  have hown : s.vm.findClass o6 = some m.cls := findClass_of_methodNamed Bd.named
  have X0 : Stand p l e oR0 s m #[(.ref va), (.int i), (.int uc)] below meth c s₁ [] 0 0 := Stand.of_body Bd
  have e0 : s₁.heap = h0 := by rw [← hh, Bd.state]; rfl
  have N0 := Fr.nil n0
  have pre0 := own_pre (p := p) (e := e) (below := below) (s₁ := s₁) (ef41 m va i uc)
  obtain ⟨T1, X1, e1, st1⟩ := getS2 X0 hx hZ hown (host := "") (Or.inl (ow hw 212 rfl)) Via.refl e0 (Ua.ext Ox.2) (g := (mkF m 0 #[oa va, oi i, oi uc] [])) rfl (hb hby d41_0)
  obtain ⟨T2, X2, e2, st2⟩ := getS2 X1 hx hZ hown (host := "") (Or.inl (ow hw 213 rfl)) Via.refl e1 (Uh.ext Ox.2) (g := (mkF m 38 #[oa va, oi ((i <<< ((1 : Int32) &&& 31)) + (1 : Int32)), oi uc] [(.int uc), (.int (i <<< ((1 : Int32) &&& 31))), (.ref va)])) rfl (hb hby d41_38)
  obtain ⟨c3, Arc3, qc3, Sc3, Mc3, Hc3, Gc3⟩ := id Vx
  have hinc3 : ¬ ((i <<< ((1 : Int32) &&& 31)) < 0 ∨ c3.slots.size ≤ ((i <<< ((1 : Int32) &&& 31))).toNatClampNeg) := inb_of Sc3 (own_ix hi0 hiz).1
  obtain ⟨T4, h4, X4, e4, W4, st4⟩ := stB X2 hx hZ e2 Arc3 (j := (i <<< ((1 : Int32) &&& 31))) hinc3 (g := (mkF m 43 #[oa va, oi ((i <<< ((1 : Int32) &&& 31)) + (1 : Int32)), oi uc] [(.int ((uc >>> ((0 : Int32) &&& 31)).toInt8.toInt32)), (.int (i <<< ((1 : Int32) &&& 31))), (.ref va)])) rfl rfl (hb hby d41_43)
  have e4' : nar .byte ((uc >>> ((0 : Int32) &&& 31)).toInt8.toInt32) = (uc.toInt8.toInt32) := by rw [own_s0]; exact own_88 uc
  have V4 : Arv Z h4 va kv .byte z (vs ++ [.int (uc.toInt8.toInt32)]) (.int 0) := own_push Vx (by rw [← e4']; exact fits_nar_byte _) (by rw [← e4']; exact W4) ((own_ix hi0 hiz).2.1.trans hvl)
  have Z5 : n0 ≤ h4.size := Nat.le_trans Z0 (Nat.le_of_eq W4.size.symm)
  have K6 : Keep h0 h4 [va] := (Keep.refl h0 [va]).wr W4 (Or.inl (List.mem_of_getElem? (i := 0) rfl))
  have N4 := Fr.snoc X4 N0 gx
  have fa7 := (Ox.wr W4 gx)
  obtain ⟨T8, X8, e8, st8⟩ := getS2 X4 hx hZ hown (host := "") (Or.inl (ow hw 214 rfl)) Via.refl e4 (Ul.ext fa7.2) (g := (mkF m 47 #[oa va, oi ((i <<< ((1 : Int32) &&& 31)) + (1 : Int32)), oi uc] [(.int uc), (.int ((i <<< ((1 : Int32) &&& 31)) + (1 : Int32))), (.ref va)])) rfl (hb hby d41_47)
  obtain ⟨c9, Arc9, qc9, Sc9, Mc9, Hc9, Gc9⟩ := id V4
  have hinc9 : ¬ (((i <<< ((1 : Int32) &&& 31)) + (1 : Int32)) < 0 ∨ c9.slots.size ≤ (((i <<< ((1 : Int32) &&& 31)) + (1 : Int32))).toNatClampNeg) := inb_of Sc9 (own_ix hi0 hiz).2.2.1
  obtain ⟨T10, h10, X10, e10, W10, st10⟩ := stB X8 hx hZ e8 Arc9 (j := ((i <<< ((1 : Int32) &&& 31)) + (1 : Int32))) hinc9 (g := (mkF m 52 #[oa va, oi ((i <<< ((1 : Int32) &&& 31)) + (1 : Int32)), oi uc] [(.int ((uc >>> ((8 : Int32) &&& 31)).toInt8.toInt32)), (.int ((i <<< ((1 : Int32) &&& 31)) + (1 : Int32))), (.ref va)])) rfl rfl (hb hby d41_52)
  have e10' : nar .byte ((uc >>> ((8 : Int32) &&& 31)).toInt8.toInt32) = (own_hi uc) := own_88 _
  have V10 : Arv Z h10 va kv .byte z ((vs ++ [.int (uc.toInt8.toInt32)]) ++ [.int (own_hi uc)]) (.int 0) := own_push V4 (by rw [← e10']; exact fits_nar_byte _) (by rw [← e10']; exact W10) ((own_ix hi0 hiz).2.2.2.trans (by rw [hvl]; simp))
  have Z11 : n0 ≤ h10.size := Nat.le_trans Z5 (Nat.le_of_eq W10.size.symm)
  have K12 : Keep h0 h10 [va] := K6.wr W10 (Or.inl (List.mem_of_getElem? (i := 0) rfl))
  have N10 := Fr.snoc X10 N4 gx
  obtain ⟨fsZ, hrZ, hrun, hended, hW, hsame⟩ := X10.leave (v := none) (fun _ => rfl)
  refine ⟨_, _, pre0 _ ?_, hrun, hended, _, _, rfl, ?_, ⟨_, rfl⟩, hW, hsame.mono (by decide) (by decide)⟩
  · show Steps _ _ _ (s₁.setTop (mkF m 0 #[oa va, oi i, oi uc] [])) _
    refine st1 _ ?_
    refine XS.ifYes X1.here hx rfl (pc0 := 3) (pc' := 28) rfl (hb hby d41_3) rfl ((if0 _ _).trans (feq (by decide)).2) (by decide) (by decide) ?_
    refine XS.iloadN X1.here hx rfl (hb hby d41_28) rfl  ?_
    refine XS.iconst X1.here hx rfl (hb hby d41_29) ?_
    refine XS.ishl X1.here hx rfl (hb hby d41_30) rfl ?_
    refine XS.istoreN X1.here hx rfl (hb hby d41_31) rfl (l' := #[oa va, oi (i <<< ((1 : Int32) &&& 31)), oi uc]) rfl ?_
    refine XS.aloadN X1.here hx rfl (hb hby d41_32) rfl rfl ?_
    refine XS.iloadN X1.here hx rfl (hb hby d41_33) rfl  ?_
    show Steps _ _ _ (T1.setTop (mkF m 34 #[oa va, oi (i <<< ((1 : Int32) &&& 31)), oi uc] [(.int (i <<< ((1 : Int32) &&& 31))), (.ref va)])) _
    refine XS.iinc X1.here hx rfl (hb hby d41_34) rfl (l' := #[oa va, oi ((i <<< ((1 : Int32) &&& 31)) + (1 : Int32)), oi uc]) rfl ?_
    refine XS.iloadN X1.here hx rfl (hb hby d41_37) rfl  ?_
    refine st2 _ ?_
    refine XS.ishr X2.here hx rfl (hb hby d41_41) rfl ?_
    refine XS.i2b X2.here hx rfl (hb hby d41_42) rfl ?_
    refine st4 _ ?_
    refine XS.aloadN X4.here hx rfl (hb hby d41_44) rfl rfl ?_
    refine XS.iloadN X4.here hx rfl (hb hby d41_45) rfl  ?_
    show Steps _ _ _ (T4.setTop (mkF m 46 #[oa va, oi ((i <<< ((1 : Int32) &&& 31)) + (1 : Int32)), oi uc] [(.int ((i <<< ((1 : Int32) &&& 31)) + (1 : Int32))), (.ref va)])) _
    refine XS.iloadN X4.here hx rfl (hb hby d41_46) rfl  ?_
    refine st8 _ ?_
    refine XS.ishr X8.here hx rfl (hb hby d41_50) rfl ?_
    refine XS.i2b X8.here hx rfl (hb hby d41_51) rfl ?_
    refine st10 _ ?_
    show Steps _ _ _ (T10.setTop (mkF m 53 #[oa va, oi ((i <<< ((1 : Int32) &&& 31)) + (1 : Int32)), oi uc] [])) _
    exact X10.returnOut hx Bd.returns (hb hby d41_53) hrZ
  · show Q41 Z va i uc kv z vs h0 n0 _ T10.heap _
    rw [e10]
    exact ⟨rfl, N10, K12, V10⟩
theorem d45_0 : decode zc9 0 = .ok (.getstatic 44, 3) := by decide +kernel
theorem d45_3 : decode zc9 3 = .ok (.ifCond .ne 25, 3) := by decide +kernel
theorem d45_28 : decode zc9 28 = .ok (.iload_n 1, 1) := by decide +kernel
theorem d45_29 : decode zc9 29 = .ok (.iconst 1, 1) := by decide +kernel
theorem d45_30 : decode zc9 30 = .ok (.ishl, 1) := by decide +kernel
theorem d45_31 : decode zc9 31 = .ok (.istore_n 1, 1) := by decide +kernel
theorem d45_32 : decode zc9 32 = .ok (.aload_n 0, 1) := by decide +kernel
theorem d45_33 : decode zc9 33 = .ok (.iload_n 1, 1) := by decide +kernel
theorem d45_34 : decode zc9 34 = .ok (.iinc 1 1, 3) := by decide +kernel
theorem d45_37 : decode zc9 37 = .ok (.baload, 1) := by decide +kernel
theorem d45_38 : decode zc9 38 = .ok (.sipush 255, 3) := by decide +kernel
theorem d45_41 : decode zc9 41 = .ok (.iand, 1) := by decide +kernel
theorem d45_42 : decode zc9 42 = .ok (.getstatic 59, 3) := by decide +kernel
theorem d45_45 : decode zc9 45 = .ok (.ishl, 1) := by decide +kernel
theorem d45_46 : decode zc9 46 = .ok (.aload_n 0, 1) := by decide +kernel
theorem d45_47 : decode zc9 47 = .ok (.iload_n 1, 1) := by decide +kernel
theorem d45_48 : decode zc9 48 = .ok (.baload, 1) := by decide +kernel
theorem d45_49 : decode zc9 49 = .ok (.sipush 255, 3) := by decide +kernel
theorem d45_52 : decode zc9 52 = .ok (.iand, 1) := by decide +kernel
theorem d45_53 : decode zc9 53 = .ok (.getstatic 63, 3) := by decide +kernel
theorem d45_56 : decode zc9 56 = .ok (.ishl, 1) := by decide +kernel
theorem d45_57 : decode zc9 57 = .ok (.ior, 1) := by decide +kernel
theorem d45_58 : decode zc9 58 = .ok (.i2c, 1) := by decide +kernel
theorem d45_59 : decode zc9 59 = .ok (.ireturn, 1) := by decide +kernel
theorem ef45 (m : MethodId) (va : Addr) (i : Int32) : entryFrame m #[(.ref va), (.int i)] 2 = mkF m 0 #[oa va, oi i] [] := by first | (simp [entryFrame, mkF, argsToLocals, Value.category]; done) | rfl
def Q45 (Z : State) (va : Addr) (i : Int32) (kv : ClassId) (z : Int32) (us : List Int32) (uc : Int32) (h0 : Heap) (n0 : Nat) (v : Option Value) (h : Heap) (L : List Loc) : Prop := v = some (.int uc) ∧ Fr n0 L ∧ h = h0
theorem rm45 (l : Launch) (Z : State) (a0 : Array Value) (hw : ∀ d ∈ tables_1, d.before a0 Z = true) (ws : List Jvm.Cond) (va : Addr) (i : Int32) (kv : ClassId) (z : Int32) (us : List Int32) (uc : Int32) (h0 : Heap) (n0 : Nat) (Z0 : n0 ≤ h0.size) (Vx : Arv Z h0 va kv .byte z (own_ub us) (.int 0)) (Ox : Old Z n0 h0) (Ua : Sta Z Z.heap o6 "$assertionsDisabled" "Z" (.int 1)) (Uh : Sta Z Z.heap o6 "HI_BYTE_SHIFT" "I" (.int 0)) (Ul : Sta Z Z.heap o6 "LO_BYTE_SHIFT" "I" (.int 8)) (hch : own_ch uc) (hg : us[i.toNatClampNeg]? = some uc) (hi0 : ¬ (i < (0 : Int32))) (hiz : 2 * i.toInt + 1 < z.toInt) :
    MetFree l oM9 (head1 (Jvm.Cond.code oM9 zc9 2 (some .char) :: ws) oR0) (fun a U => a = #[(.ref va), (.int i)] ∧ Z.Warmed39 U.vm ∧ U.heap = h0) (fun _ _ _ _ _ => True) (fun _ U o U' => ∃ v L, o = .returned v ∧ Q45 Z va i kv z us uc h0 n0 v U'.heap L ∧ FrameEnd U o U' L oR0.cells oR0.slots) := by
  refine MetFree.of_bodySF (plainFor_of_name pn1) hisR ?_
  intro p e s m args below meth c s₁ Bd hml0 hP hK
  obtain ⟨rfl, hZ, hh⟩ := hP
  have hx := Bd.exec
  have hby := Bd.bytes
  have hml : c.maxLocals = 2 := hml0
  have hown : s.vm.findClass o6 = some m.cls := findClass_of_methodNamed Bd.named
  have X0 : Stand p l e oR0 s m #[(.ref va), (.int i)] below meth c s₁ [] 0 0 := Stand.of_body Bd
  have e0 : s₁.heap = h0 := by rw [← hh, Bd.state]; rfl
  have N0 := Fr.nil n0
  have pre0 := own_pre (p := p) (e := e) (below := below) (s₁ := s₁) (ef45 m va i)
  obtain ⟨T1, X1, e1, st1⟩ := getS2 X0 hx hZ hown (host := "") (Or.inl (ow hw 212 rfl)) Via.refl e0 (Ua.ext Ox.2) (g := (mkF m 0 #[oa va, oi i] [])) rfl (hb hby d45_0)
  obtain ⟨c2, Arc2, qc2, Sc2, Mc2, Hc2, Gc2⟩ := id Vx
  have hinc2 : ¬ ((i <<< ((1 : Int32) &&& 31)) < 0 ∨ c2.slots.size ≤ ((i <<< ((1 : Int32) &&& 31))).toNatClampNeg) := inb_of Sc2 (own_ix hi0 hiz).1
  have hatc2 : c2.slots[((i <<< ((1 : Int32) &&& 31))).toNatClampNeg]? = some (.int (uc.toInt8.toInt32)) := Hc2.at hinc2 (by rw [(own_ix hi0 hiz).2.1]; exact (own_g2 hg).1)
  obtain ⟨T3, X3, e3, st3⟩ := getS2 X1 hx hZ hown (host := "") (Or.inl (ow hw 213 rfl)) Via.refl e1 (Uh.ext Ox.2) (g := (mkF m 42 #[oa va, oi ((i <<< ((1 : Int32) &&& 31)) + (1 : Int32))] [(.int ((uc.toInt8.toInt32) &&& (255 : Int32)))])) rfl (hb hby d45_42)
  obtain ⟨c4, Arc4, qc4, Sc4, Mc4, Hc4, Gc4⟩ := id Vx
  have hinc4 : ¬ (((i <<< ((1 : Int32) &&& 31)) + (1 : Int32)) < 0 ∨ c4.slots.size ≤ (((i <<< ((1 : Int32) &&& 31)) + (1 : Int32))).toNatClampNeg) := inb_of Sc4 (own_ix hi0 hiz).2.2.1
  have hatc4 : c4.slots[(((i <<< ((1 : Int32) &&& 31)) + (1 : Int32))).toNatClampNeg]? = some (.int (own_hi uc)) := Hc4.at hinc4 (by rw [(own_ix hi0 hiz).2.2.2]; exact (own_g2 hg).2)
  obtain ⟨T5, X5, e5, st5⟩ := getS2 X3 hx hZ hown (host := "") (Or.inl (ow hw 214 rfl)) Via.refl e3 (Ul.ext Ox.2) (g := (mkF m 53 #[oa va, oi ((i <<< ((1 : Int32) &&& 31)) + (1 : Int32))] [(.int ((own_hi uc) &&& (255 : Int32))), (.int (((uc.toInt8.toInt32) &&& (255 : Int32)) <<< ((0 : Int32) &&& 31)))])) rfl (hb hby d45_53)
  obtain ⟨fsZ, hrZ, hrun, hended, hW, hsame⟩ := X5.leave (v := some (.int uc)) (fun h => by rw [Bd.returns] at h; cases h)
  refine ⟨_, _, pre0 _ ?_, hrun, hended, _, _, rfl, ?_, ⟨_, rfl⟩, hW, hsame.mono (by decide) (by decide)⟩
  · show Steps _ _ _ (s₁.setTop (mkF m 0 #[oa va, oi i] [])) _
    refine st1 _ ?_
    refine XS.ifYes X1.here hx rfl (pc0 := 3) (pc' := 28) rfl (hb hby d45_3) rfl ((if0 _ _).trans (feq (by decide)).2) (by decide) (by decide) ?_
    refine XS.iloadN X1.here hx rfl (hb hby d45_28) rfl  ?_
    refine XS.iconst X1.here hx rfl (hb hby d45_29) ?_
    refine XS.ishl X1.here hx rfl (hb hby d45_30) rfl ?_
    refine XS.istoreN X1.here hx rfl (hb hby d45_31) rfl (l' := #[oa va, oi (i <<< ((1 : Int32) &&& 31))]) rfl ?_
    refine XS.aloadN X1.here hx rfl (hb hby d45_32) rfl rfl ?_
    refine XS.iloadN X1.here hx rfl (hb hby d45_33) rfl  ?_
    show Steps _ _ _ (T1.setTop (mkF m 34 #[oa va, oi (i <<< ((1 : Int32) &&& 31))] [(.int (i <<< ((1 : Int32) &&& 31))), (.ref va)])) _
    refine XS.iinc X1.here hx rfl (hb hby d45_34) rfl (l' := #[oa va, oi ((i <<< ((1 : Int32) &&& 31)) + (1 : Int32))]) rfl ?_
    show Steps _ _ _ (T1.setTop (mkF m 37 #[oa va, oi ((i <<< ((1 : Int32) &&& 31)) + (1 : Int32))] [(.int (i <<< ((1 : Int32) &&& 31))), (.ref va)])) _
    refine X1.baloadBytes hx (j := (i <<< ((1 : Int32) &&& 31))) (v := (.int (uc.toInt8.toInt32))) (by rw [e1]; exact Arc2.1) (State.isArrayOf_alike hZ.alike Arc2.2.1) Arc2.2.2 hinc2 hatc2 (g := (mkF m 37 #[oa va, oi ((i <<< ((1 : Int32) &&& 31)) + (1 : Int32))] [(.int (i <<< ((1 : Int32) &&& 31))), (.ref va)])) rfl rfl (hb hby d45_37) _ ?_
    refine XS.sipush X1.here hx rfl (hb hby d45_38) ?_
    refine XS.iand X1.here hx rfl (hb hby d45_41) rfl ?_
    refine st3 _ ?_
    refine XS.ishl X3.here hx rfl (hb hby d45_45) rfl ?_
    refine XS.aloadN X3.here hx rfl (hb hby d45_46) rfl rfl ?_
    refine XS.iloadN X3.here hx rfl (hb hby d45_47) rfl  ?_
    show Steps _ _ _ (T3.setTop (mkF m 48 #[oa va, oi ((i <<< ((1 : Int32) &&& 31)) + (1 : Int32))] [(.int ((i <<< ((1 : Int32) &&& 31)) + (1 : Int32))), (.ref va), (.int (((uc.toInt8.toInt32) &&& (255 : Int32)) <<< ((0 : Int32) &&& 31)))])) _
    refine X3.baloadBytes hx (j := ((i <<< ((1 : Int32) &&& 31)) + (1 : Int32))) (v := (.int (own_hi uc))) (by rw [e3]; exact Arc4.1) (State.isArrayOf_alike hZ.alike Arc4.2.1) Arc4.2.2 hinc4 hatc4 (g := (mkF m 48 #[oa va, oi ((i <<< ((1 : Int32) &&& 31)) + (1 : Int32))] [(.int ((i <<< ((1 : Int32) &&& 31)) + (1 : Int32))), (.ref va), (.int (((uc.toInt8.toInt32) &&& (255 : Int32)) <<< ((0 : Int32) &&& 31)))])) rfl rfl (hb hby d45_48) _ ?_
    refine XS.sipush X3.here hx rfl (hb hby d45_49) ?_
    refine XS.iand X3.here hx rfl (hb hby d45_52) rfl ?_
    refine st5 _ ?_
    refine XS.ishl X5.here hx rfl (hb hby d45_56) rfl ?_
    refine XS.ior X5.here hx rfl (hb hby d45_57) rfl ?_
    refine XS.i2c X5.here hx rfl (hb hby d45_58) rfl ?_
    show Steps _ _ _ (T5.setTop (mkF m 59 #[oa va, oi ((i <<< ((1 : Int32) &&& 31)) + (1 : Int32))] [(.int (((((uc.toInt8.toInt32) &&& (255 : Int32)) <<< ((0 : Int32) &&& 31)) ||| (((own_hi uc) &&& (255 : Int32)) <<< ((8 : Int32) &&& 31))).toUInt32.toUInt16.toUInt32.toInt32))])) _
    rw [show (((((uc.toInt8.toInt32) &&& (255 : Int32)) <<< ((0 : Int32) &&& 31)) ||| (((own_hi uc) &&& (255 : Int32)) <<< ((8 : Int32) &&& 31))).toUInt32.toUInt16.toUInt32.toInt32) = uc from by rw [own_u16 hch]; exact own_i2c hch]
    show Steps _ _ _ (T5.setTop (mkF m 59 #[oa va, oi ((i <<< ((1 : Int32) &&& 31)) + (1 : Int32))] [(.int uc)])) _
    exact retN X5 hx (t := .char) Bd.returns (by simp) (hb hby d45_59) (fun f acts x1 x2 x3 => by rw [(show nar .char uc = uc from own_i2c hch)]; exact hrZ f acts x1 x2 x3)
  · show Q45 Z va i kv z us uc h0 n0 _ T5.heap _
    rw [e5]
    exact ⟨rfl, N0, rfl⟩
theorem d53_0 : decode zc10 0 = .ok (.iload_n 1, 1) := by decide +kernel
theorem d53_1 : decode zc10 1 = .ok (.aload_n 0, 1) := by decide +kernel
theorem d53_2 : decode zc10 2 = .ok (.invokestatic 67, 3) := by decide +kernel
theorem pd9 : parseMethodDescriptor "(I[B)V" = some ⟨[.int, (.array .byte)], none⟩ := by decide +kernel
theorem d53_5 : decode zc10 5 = .ok (.aload_n 0, 1) := by decide +kernel
theorem d53_6 : decode zc10 6 = .ok (.iload_n 1, 1) := by decide +kernel
theorem d53_7 : decode zc10 7 = .ok (.invokestatic 71, 3) := by decide +kernel
theorem pd10 : parseMethodDescriptor "([BI)C" = some ⟨[(.array .byte), .int], some .char⟩ := by decide +kernel
theorem d53_10 : decode zc10 10 = .ok (.ireturn, 1) := by decide +kernel
theorem ef53 (m : MethodId) (va : Addr) (i : Int32) : entryFrame m #[(.ref va), (.int i)] 2 = mkF m 0 #[oa va, oi i] [] := by first | (simp [entryFrame, mkF, argsToLocals, Value.category]; done) | rfl
def Q53 (Z : State) (va : Addr) (i : Int32) (kv : ClassId) (z : Int32) (us : List Int32) (uc : Int32) (fm : Value) (h0 : Heap) (n0 : Nat) (v : Option Value) (h : Heap) (L : List Loc) : Prop := v = some (.int uc) ∧ Fr n0 L ∧ h = h0
theorem rm53 (l : Launch) (Z : State) (a0 : Array Value) (hw : ∀ d ∈ tables_1, d.before a0 Z = true) (ws : List Jvm.Cond) (va : Addr) (i : Int32) (kv : ClassId) (z : Int32) (us : List Int32) (uc : Int32) (fm : Value) (h0 : Heap) (n0 : Nat) (Z0 : n0 ≤ h0.size) (Vx : Arv Z h0 va kv .byte z (own_ub us) (.int 0)) (Fm : Sta Z Z.heap "jdk/internal/util/Preconditions" "SIOOBE_FORMATTER" "Ljava/util/function/BiFunction;" fm) (hfm : fm.isRef = true) (Ox : Old Z n0 h0) (Ua : Sta Z Z.heap o6 "$assertionsDisabled" "Z" (.int 1)) (Uh : Sta Z Z.heap o6 "HI_BYTE_SHIFT" "I" (.int 0)) (Ul : Sta Z Z.heap o6 "LO_BYTE_SHIFT" "I" (.int 8)) (hch : own_ch uc) (hg : us[i.toNatClampNeg]? = some uc) (hi0 : ¬ (i < (0 : Int32))) (hiz : 2 * i.toInt + 1 < z.toInt) (hin : i < (z >>> ((1 : Int32) &&& 31))) :
    MetFree l oM10 (head1 (Jvm.Cond.code oM10 zc10 2 (some .char) :: ws) oR5) (fun a U => a = #[(.ref va), (.int i)] ∧ Z.Warmed39 U.vm ∧ U.heap = h0) (fun _ _ _ _ _ => True) (fun _ U o U' => ∃ v L, o = .returned v ∧ Q53 Z va i kv z us uc fm h0 n0 v U'.heap L ∧ FrameEnd U o U' L oR5.cells oR5.slots) := by
  refine MetFree.of_bodySF (plainFor_of_name pn1) hisR ?_
  intro p e s m args below meth c s₁ Bd hml0 hP hK
  obtain ⟨rfl, hZ, hh⟩ := hP
  have hx := Bd.exec
  have hby := Bd.bytes
  have hml : c.maxLocals = 2 := hml0
  have hown : s.vm.findClass o6 = some m.cls := findClass_of_methodNamed Bd.named
  have X0 : Stand p l e oR5 s m #[(.ref va), (.int i)] below meth c s₁ [] 0 0 := Stand.of_body Bd
  have e0 : s₁.heap = h0 := by rw [← hh, Bd.state]; rfl
  have N0 := Fr.nil n0
  have pre0 := own_pre (p := p) (e := e) (below := below) (s₁ := s₁) (ef53 m va i)
  obtain ⟨_, _, ⟨T1, L1, k1, n1⟩, -, X1, ⟨Lc1, hQ1, l1, y1, z1⟩, st1⟩ := Jvm.LawKit.callS X0 hx (y := oM7) hown (mvT hZ (ow hw 260 rfl)) (mvT hZ (ow hw 261 rfl)) (mvT hZ (ow hw 37 rfl)) (mvT hZ (ow hw 262 rfl)) (by decide) (backOf (W := 0) (rm54 l Z a0 hw [] i va kv z (own_ub us) fm h0 n0 Z0 Vx Fm hfm Ox hi0 hin) hZ (ow hw 262 rfl) (ow hw 37 rfl) (by decide) (by decide)) (g := (mkF m 2 #[oa va, oi i] [(.ref va), (.int i)])) rfl (by rw [hml]; rfl) (argsL := [(.int i), (.ref va)]) (rest := []) (lenOf pd9 rfl) rfl (Nat.le_of_eq rfl) (hb hby d53_2) (fun _ _ => ⟨rfl, e0, (by decide : 0 + 0 ≤ _), (by decide : 0 + 0 ≤ _)⟩)
  dsimp only [Pt.U, Pt.locs, Pt.cells, Pt.slots] at X1 l1 y1 z1 st1 hQ1
  subst l1 y1 z1
  obtain ⟨rfl, N1q, e1⟩ := hQ1
  have N1 := Fr.app N0 N1q
  obtain ⟨_, _, ⟨T2, L2, k2, n2⟩, -, X2, ⟨Lc2, hQ2, l2, y2, z2⟩, st2⟩ := Jvm.LawKit.callS X1 hx (y := oM9) hown (mvT hZ (ow hw 225 rfl)) (mvT hZ (ow hw 226 rfl)) (mvT hZ (ow hw 37 rfl)) (mvT hZ (ow hw 227 rfl)) (by decide) (backOf (W := 0) (rm45 l Z a0 hw [] va i kv z us uc h0 n0 Z0 Vx Ox Ua Uh Ul hch hg hi0 hiz) hZ (ow hw 227 rfl) (ow hw 37 rfl) (by decide) (by decide)) (g := (mkF m 7 #[oa va, oi i] [(.int i), (.ref va)])) rfl (by rw [hml]; rfl) (argsL := [(.ref va), (.int i)]) (rest := []) (lenOf pd10 rfl) rfl (Nat.le_of_eq rfl) (hb hby d53_7) (fun _ _ => ⟨rfl, e1, (by decide : 0 + 0 ≤ _), (by decide : 0 + 0 ≤ _)⟩)
  dsimp only [Pt.U, Pt.locs, Pt.cells, Pt.slots] at X2 l2 y2 z2 st2 hQ2
  subst l2 y2 z2
  obtain ⟨rfl, N2q, e2⟩ := hQ2
  have N2 := Fr.app N1 N2q
  obtain ⟨fsZ, hrZ, hrun, hended, hW, hsame⟩ := X2.leave (v := some (.int uc)) (fun h => by rw [Bd.returns] at h; cases h)
  refine ⟨_, _, pre0 _ ?_, hrun, hended, _, _, rfl, ?_, ⟨_, rfl⟩, hW, hsame.mono (by decide) (by decide)⟩
  · show Steps _ _ _ (s₁.setTop (mkF m 0 #[oa va, oi i] [])) _
    refine XS.iloadN X0.here hx rfl (hb hby d53_0) rfl  ?_
    refine XS.aloadN X0.here hx rfl (hb hby d53_1) rfl rfl ?_
    refine st1 _ ?_
    refine XS.aloadN X1.here hx rfl (hb hby d53_5) rfl rfl ?_
    refine XS.iloadN X1.here hx rfl (hb hby d53_6) rfl  ?_
    refine st2 _ ?_
    show Steps _ _ _ (T2.setTop (mkF m 10 #[oa va, oi i] [(.int uc)])) _
    exact retN X2 hx (t := .char) Bd.returns (by simp) (hb hby d53_10) (fun f acts x1 x2 x3 => by rw [(show nar .char uc = uc from own_i2c hch)]; exact hrZ f acts x1 x2 x3)
  · show Q53 Z va i kv z us uc fm h0 n0 _ T2.heap _
    rw [e2]
    exact ⟨rfl, N2, rfl⟩
theorem d37_0 : decode zc11 0 = .ok (.iload_n 1, 1) := by decide +kernel
theorem d37_1 : decode zc11 1 = .ok (.aload_n 0, 1) := by decide +kernel
theorem d37_2 : decode zc11 2 = .ok (.arraylength, 1) := by decide +kernel
theorem d37_3 : decode zc11 3 = .ok (.invokestatic 9, 3) := by decide +kernel
theorem d37_6 : decode zc11 6 = .ok (.aload_n 0, 1) := by decide +kernel
theorem d37_7 : decode zc11 7 = .ok (.iload_n 1, 1) := by decide +kernel
theorem d37_8 : decode zc11 8 = .ok (.baload, 1) := by decide +kernel
theorem d37_9 : decode zc11 9 = .ok (.sipush 255, 3) := by decide +kernel
theorem d37_12 : decode zc11 12 = .ok (.iand, 1) := by decide +kernel
theorem d37_13 : decode zc11 13 = .ok (.i2c, 1) := by decide +kernel
theorem d37_14 : decode zc11 14 = .ok (.ireturn, 1) := by decide +kernel
theorem ef37 (m : MethodId) (va : Addr) (i : Int32) : entryFrame m #[(.ref va), (.int i)] 2 = mkF m 0 #[oa va, oi i] [] := by first | (simp [entryFrame, mkF, argsToLocals, Value.category]; done) | rfl
def Q37 (Z : State) (va : Addr) (i : Int32) (kv : ClassId) (z : Int32) (us : List Int32) (uc : Int32) (fm : Value) (h0 : Heap) (n0 : Nat) (v : Option Value) (h : Heap) (L : List Loc) : Prop := v = some (.int uc) ∧ Fr n0 L ∧ h = h0
theorem rm37 (l : Launch) (Z : State) (a0 : Array Value) (hw : ∀ d ∈ tables_1, d.before a0 Z = true) (ws : List Jvm.Cond) (va : Addr) (i : Int32) (kv : ClassId) (z : Int32) (us : List Int32) (uc : Int32) (fm : Value) (h0 : Heap) (n0 : Nat) (Z0 : n0 ≤ h0.size) (Vx : Arv Z h0 va kv .byte z (own_lb us) (.int 0)) (Fm : Sta Z Z.heap "jdk/internal/util/Preconditions" "SIOOBE_FORMATTER" "Ljava/util/function/BiFunction;" fm) (hfm : fm.isRef = true) (Ox : Old Z n0 h0) (hch : own_ch uc) (hg : us[i.toNatClampNeg]? = some uc) (hi0 : ¬ (i < (0 : Int32))) (hl : ¬ ((255 : Int32) < uc)) (hin : i < z) :
    MetFree l oM11 (head1 (Jvm.Cond.code oM11 zc11 2 (some .char) :: ws) oR4) (fun a U => a = #[(.ref va), (.int i)] ∧ Z.Warmed39 U.vm ∧ U.heap = h0) (fun _ _ _ _ _ => True) (fun _ U o U' => ∃ v L, o = .returned v ∧ Q37 Z va i kv z us uc fm h0 n0 v U'.heap L ∧ FrameEnd U o U' L oR4.cells oR4.slots) := by
  refine MetFree.of_bodySF (plainFor_of_name pn0) hisR ?_
  intro p e s m args below meth c s₁ Bd hml0 hP hK
  obtain ⟨rfl, hZ, hh⟩ := hP
  have hx := Bd.exec
  have hby := Bd.bytes
  have hml : c.maxLocals = 2 := hml0
  have hown : s.vm.findClass "java/lang/StringLatin1" = some m.cls := findClass_of_methodNamed Bd.named
  have X0 : Stand p l e oR4 s m #[(.ref va), (.int i)] below meth c s₁ [] 0 0 := Stand.of_body Bd
  have e0 : s₁.heap = h0 := by rw [← hh, Bd.state]; rfl
  have N0 := Fr.nil n0
  have pre0 := own_pre (p := p) (e := e) (below := below) (s₁ := s₁) (ef37 m va i)
  obtain ⟨c1, Arc1, -, Sc1, Mc1, -, -⟩ := id Vx
  obtain ⟨_, _, ⟨T2, L2, k2, n2⟩, -, X2, ⟨Lc2, hQ2, l2, y2, z2⟩, st2⟩ := Jvm.LawKit.callS X0 hx (y := oM3) hown (mvT hZ (ow hw 198 rfl)) (mvT hZ (ow hw 199 rfl)) (mvT hZ (ow hw 3 rfl)) (mvT hZ (ow hw 200 rfl)) (by decide) (backOf (W := 0) (rm38 l Z a0 hw [] i z fm h0 n0 Z0 Fm hfm Ox hi0 hin) hZ (ow hw 200 rfl) (ow hw 3 rfl) (by decide) (by decide)) (g := (mkF m 3 #[oa va, oi i] [(.int z), (.int i)])) rfl (by rw [hml]; rfl) (argsL := [(.int i), (.int z)]) (rest := []) (lenOf pd8 rfl) rfl (Nat.le_of_eq rfl) (hb hby d37_3) (fun _ _ => ⟨rfl, e0, (by decide : 0 + 0 ≤ _), (by decide : 0 + 0 ≤ _)⟩)
  dsimp only [Pt.U, Pt.locs, Pt.cells, Pt.slots] at X2 l2 y2 z2 st2 hQ2
  subst l2 y2 z2
  obtain ⟨rfl, N2q, e2⟩ := hQ2
  have N2 := Fr.app N0 N2q
  obtain ⟨c3, Arc3, qc3, Sc3, Mc3, Hc3, Gc3⟩ := id Vx
  have hinc3 : ¬ (i < 0 ∨ c3.slots.size ≤ (i).toNatClampNeg) := inb_of Sc3 ⟨hi0, hin⟩
  have hatc3 : c3.slots[(i).toNatClampNeg]? = some (.int (uc.toInt8.toInt32)) := Hc3.at hinc3 (own_g1 hg)
  obtain ⟨fsZ, hrZ, hrun, hended, hW, hsame⟩ := X2.leave (v := some (.int uc)) (fun h => by rw [Bd.returns] at h; cases h)
  refine ⟨_, _, pre0 _ ?_, hrun, hended, _, _, rfl, ?_, ⟨_, rfl⟩, hW, hsame.mono (by decide) (by decide)⟩
  · show Steps _ _ _ (s₁.setTop (mkF m 0 #[oa va, oi i] [])) _
    refine XS.iloadN X0.here hx rfl (hb hby d37_0) rfl  ?_
    refine XS.aloadN X0.here hx rfl (hb hby d37_1) rfl rfl ?_
    show Steps _ _ _ (s₁.setTop (mkF m 2 #[oa va, oi i] [(.ref va), (.int i)])) _
    refine X0.arraylength hx (by rw [e0]; exact Arc1.1) (State.isArrayOf_alike hZ.alike Arc1.2.1) (g := (mkF m 2 #[oa va, oi i] [(.ref va), (.int i)])) rfl rfl (hb hby d37_2) _ ?_
    rw [len_of Sc1 Mc1]
    show Steps _ _ _ (s₁.setTop (mkF m 3 #[oa va, oi i] [(.int z), (.int i)])) _
    refine st2 _ ?_
    refine XS.aloadN X2.here hx rfl (hb hby d37_6) rfl rfl ?_
    refine XS.iloadN X2.here hx rfl (hb hby d37_7) rfl  ?_
    show Steps _ _ _ (T2.setTop (mkF m 8 #[oa va, oi i] [(.int i), (.ref va)])) _
    refine X2.baloadBytes hx (j := i) (v := (.int (uc.toInt8.toInt32))) (by rw [e2]; exact Arc3.1) (State.isArrayOf_alike hZ.alike Arc3.2.1) Arc3.2.2 hinc3 hatc3 (g := (mkF m 8 #[oa va, oi i] [(.int i), (.ref va)])) rfl rfl (hb hby d37_8) _ ?_
    refine XS.sipush X2.here hx rfl (hb hby d37_9) ?_
    refine XS.iand X2.here hx rfl (hb hby d37_12) rfl ?_
    refine XS.i2c X2.here hx rfl (hb hby d37_13) rfl ?_
    show Steps _ _ _ (T2.setTop (mkF m 14 #[oa va, oi i] [(.int (((uc.toInt8.toInt32) &&& (255 : Int32)).toUInt32.toUInt16.toUInt32.toInt32))])) _
    rw [show (((uc.toInt8.toInt32) &&& (255 : Int32)).toUInt32.toUInt16.toUInt32.toInt32) = uc from by rw [own_b8 hch.1 hl]; exact own_i2c hch]
    show Steps _ _ _ (T2.setTop (mkF m 14 #[oa va, oi i] [(.int uc)])) _
    exact retN X2 hx (t := .char) Bd.returns (by simp) (hb hby d37_14) (fun f acts x1 x2 x3 => by rw [(show nar .char uc = uc from own_i2c hch)]; exact hrZ f acts x1 x2 x3)
  · show Q37 Z va i kv z us uc fm h0 n0 _ T2.heap _
    rw [e2]
    exact ⟨rfl, N2, rfl⟩
theorem d36_0 : decode zc12 0 = .ok (.getstatic 38, 3) := by decide +kernel
theorem d36_3 : decode zc12 3 = .ok (.ifCond .eq 14, 3) := by decide +kernel
theorem d36_6 : decode zc12 6 = .ok (.aload_n 0, 1) := by decide +kernel
theorem d36_7 : decode zc12 7 = .ok (.getfield 15, 3) := by decide +kernel
theorem d36_10 : decode zc12 10 = .ok (.ifCond .ne 7, 3) := by decide +kernel
theorem d36_13 : decode zc12 13 = .ok (.iconst 1, 1) := by decide +kernel
theorem d36_14 : decode zc12 14 = .ok (.goto 4, 3) := by decide +kernel
theorem d36_18 : decode zc12 18 = .ok (.ireturn, 1) := by decide +kernel
theorem ef36k0 (m : MethodId) (sa : Addr) : entryFrame m #[(.ref sa)] 1 = mkF m 0 #[oa sa] [] := by first | (simp [entryFrame, mkF, argsToLocals, Value.category]; done) | rfl
def Q36k0 (Z : State) (sa : Addr) (cs : Int32) (h0 : Heap) (n0 : Nat) (v : Option Value) (h : Heap) (L : List Loc) : Prop := v = some (.int 1) ∧ Fr n0 L ∧ h = h0
theorem rm36k0 (l : Launch) (Z : State) (a0 : Array Value) (hw : ∀ d ∈ tables_1, d.before a0 Z = true) (ws : List Jvm.Cond) (sa : Addr) (cs : Int32) (h0 : Heap) (n0 : Nat) (Z0 : n0 ≤ h0.size) (Fc : Fld Z h0 sa oS "coder" "B" (.int 0)) (Cs : Sta Z Z.heap oS "COMPACT_STRINGS" "Z" (.int cs)) (hcs : ¬ (cs = (0 : Int32))) (Ox : Old Z n0 h0) :
    MetFree l oM12 (head1 (Jvm.Cond.code oM12 zc12 1 (some .boolean) :: ws) oR0) (fun a U => a = #[(.ref sa)] ∧ Z.Warmed39 U.vm ∧ U.heap = h0) (fun _ _ _ _ _ => True) (fun _ U o U' => ∃ v L, o = .returned v ∧ Q36k0 Z sa cs h0 n0 v U'.heap L ∧ FrameEnd U o U' L oR0.cells oR0.slots) := by
  refine MetFree.of_bodySF (plainFor_of_name pn3) hisR ?_
  intro p e s m args below meth c s₁ Bd hml0 hP hK
  obtain ⟨rfl, hZ, hh⟩ := hP
  have hx := Bd.exec
  have hby := Bd.bytes
  have hml : c.maxLocals = 1 := hml0
  have hown : s.vm.findClass oS = some m.cls := findClass_of_methodNamed Bd.named
  have X0 : Stand p l e oR0 s m #[(.ref sa)] below meth c s₁ [] 0 0 := Stand.of_body Bd
  have e0 : s₁.heap = h0 := by rw [← hh, Bd.state]; rfl
  have N0 := Fr.nil n0
  have pre0 := own_pre (p := p) (e := e) (below := below) (s₁ := s₁) (ef36k0 m sa)
  obtain ⟨T1, X1, e1, st1⟩ := getS2 X0 hx hZ hown (host := "") (Or.inl (ow hw 5 rfl)) Via.refl e0 (Cs.ext Ox.2) (g := (mkF m 0 #[oa sa] [])) rfl (hb hby d36_0)
  obtain ⟨T2, X2, e2, st2⟩ := getF X1 hx hZ hown (host := "") (Or.inl (ow hw 25 rfl)) Via.refl e1 Fc (g := (mkF m 7 #[oa sa] [(.ref sa)])) rfl rfl (hb hby d36_7)
  obtain ⟨fsZ, hrZ, hrun, hended, hW, hsame⟩ := X2.leave (v := some (.int 1)) (fun h => by rw [Bd.returns] at h; cases h)
  refine ⟨_, _, pre0 _ ?_, hrun, hended, _, _, rfl, ?_, ⟨_, rfl⟩, hW, hsame.mono (by decide) (by decide)⟩
  · show Steps _ _ _ (s₁.setTop (mkF m 0 #[oa sa] [])) _
    refine st1 _ ?_
    refine XS.ifNo X1.here hx rfl (hb hby d36_3) rfl ((if0 _ _).trans (feq hcs).1) ?_
    refine XS.aloadN X1.here hx rfl (hb hby d36_6) rfl rfl ?_
    refine st2 _ ?_
    refine XS.ifNo X2.here hx rfl (hb hby d36_10) rfl ((if0 _ _).trans (teq (by decide)).2) ?_
    refine XS.iconst X2.here hx rfl (hb hby d36_13) ?_
    refine XS.goto X2.here hx rfl (pc0 := 14) (pc' := 18) rfl (hb hby d36_14) (by decide) (by decide) ?_
    show Steps _ _ _ (T2.setTop (mkF m 18 #[oa sa] [(.int 1)])) _
    exact retN X2 hx (t := .boolean) Bd.returns (by simp) (hb hby d36_18) hrZ
  · show Q36k0 Z sa cs h0 n0 _ T2.heap _
    rw [e2]
    exact ⟨rfl, N0, rfl⟩
theorem d36_17 : decode zc12 17 = .ok (.iconst 0, 1) := by decide +kernel
theorem ef36k1 (m : MethodId) (sa : Addr) : entryFrame m #[(.ref sa)] 1 = mkF m 0 #[oa sa] [] := by first | (simp [entryFrame, mkF, argsToLocals, Value.category]; done) | rfl
def Q36k1 (Z : State) (sa : Addr) (cs : Int32) (h0 : Heap) (n0 : Nat) (v : Option Value) (h : Heap) (L : List Loc) : Prop := v = some (.int 0) ∧ Fr n0 L ∧ h = h0
theorem rm36k1 (l : Launch) (Z : State) (a0 : Array Value) (hw : ∀ d ∈ tables_1, d.before a0 Z = true) (ws : List Jvm.Cond) (sa : Addr) (cs : Int32) (h0 : Heap) (n0 : Nat) (Z0 : n0 ≤ h0.size) (Fc : Fld Z h0 sa oS "coder" "B" (.int 1)) (Cs : Sta Z Z.heap oS "COMPACT_STRINGS" "Z" (.int cs)) (hcs : ¬ (cs = (0 : Int32))) (Ox : Old Z n0 h0) :
    MetFree l oM12 (head1 (Jvm.Cond.code oM12 zc12 1 (some .boolean) :: ws) oR0) (fun a U => a = #[(.ref sa)] ∧ Z.Warmed39 U.vm ∧ U.heap = h0) (fun _ _ _ _ _ => True) (fun _ U o U' => ∃ v L, o = .returned v ∧ Q36k1 Z sa cs h0 n0 v U'.heap L ∧ FrameEnd U o U' L oR0.cells oR0.slots) := by
  refine MetFree.of_bodySF (plainFor_of_name pn3) hisR ?_
  intro p e s m args below meth c s₁ Bd hml0 hP hK
  obtain ⟨rfl, hZ, hh⟩ := hP
  have hx := Bd.exec
  have hby := Bd.bytes
  have hml : c.maxLocals = 1 := hml0
  have hown : s.vm.findClass oS = some m.cls := findClass_of_methodNamed Bd.named
  have X0 : Stand p l e oR0 s m #[(.ref sa)] below meth c s₁ [] 0 0 := Stand.of_body Bd
  have e0 : s₁.heap = h0 := by rw [← hh, Bd.state]; rfl
  have N0 := Fr.nil n0
  have pre0 := own_pre (p := p) (e := e) (below := below) (s₁ := s₁) (ef36k1 m sa)
  obtain ⟨T1, X1, e1, st1⟩ := getS2 X0 hx hZ hown (host := "") (Or.inl (ow hw 5 rfl)) Via.refl e0 (Cs.ext Ox.2) (g := (mkF m 0 #[oa sa] [])) rfl (hb hby d36_0)
  obtain ⟨T2, X2, e2, st2⟩ := getF X1 hx hZ hown (host := "") (Or.inl (ow hw 25 rfl)) Via.refl e1 Fc (g := (mkF m 7 #[oa sa] [(.ref sa)])) rfl rfl (hb hby d36_7)
  obtain ⟨fsZ, hrZ, hrun, hended, hW, hsame⟩ := X2.leave (v := some (.int 0)) (fun h => by rw [Bd.returns] at h; cases h)
  refine ⟨_, _, pre0 _ ?_, hrun, hended, _, _, rfl, ?_, ⟨_, rfl⟩, hW, hsame.mono (by decide) (by decide)⟩
  · show Steps _ _ _ (s₁.setTop (mkF m 0 #[oa sa] [])) _
    refine st1 _ ?_
    refine XS.ifNo X1.here hx rfl (hb hby d36_3) rfl ((if0 _ _).trans (feq hcs).1) ?_
    refine XS.aloadN X1.here hx rfl (hb hby d36_6) rfl rfl ?_
    refine st2 _ ?_
    refine XS.ifYes X2.here hx rfl (pc0 := 10) (pc' := 17) rfl (hb hby d36_10) rfl ((if0 _ _).trans (feq (by decide)).2) (by decide) (by decide) ?_
    refine XS.iconst X2.here hx rfl (hb hby d36_17) ?_
    show Steps _ _ _ (T2.setTop (mkF m 18 #[oa sa] [(.int 0)])) _
    exact retN X2 hx (t := .boolean) Bd.returns (by simp) (hb hby d36_18) hrZ
  · show Q36k1 Z sa cs h0 n0 _ T2.heap _
    rw [e2]
    exact ⟨rfl, N0, rfl⟩
theorem d18_0 : decode zc13 0 = .ok (.getstatic 38, 3) := by decide +kernel
theorem d18_3 : decode zc13 3 = .ok (.ifCond .eq 10, 3) := by decide +kernel
theorem d18_6 : decode zc13 6 = .ok (.aload_n 0, 1) := by decide +kernel
theorem d18_7 : decode zc13 7 = .ok (.getfield 15, 3) := by decide +kernel
theorem d18_10 : decode zc13 10 = .ok (.goto 4, 3) := by decide +kernel
theorem d18_14 : decode zc13 14 = .ok (.ireturn, 1) := by decide +kernel
theorem ef18 (m : MethodId) (sa : Addr) : entryFrame m #[(.ref sa)] 1 = mkF m 0 #[oa sa] [] := by first | (simp [entryFrame, mkF, argsToLocals, Value.category]; done) | rfl
def Q18 (Z : State) (sa : Addr) (kc : Int32) (cs : Int32) (h0 : Heap) (n0 : Nat) (v : Option Value) (h : Heap) (L : List Loc) : Prop := v = some (.int kc) ∧ Fr n0 L ∧ h = h0
theorem rm18 (l : Launch) (Z : State) (a0 : Array Value) (hw : ∀ d ∈ tables_1, d.before a0 Z = true) (ws : List Jvm.Cond) (sa : Addr) (kc : Int32) (cs : Int32) (h0 : Heap) (n0 : Nat) (Z0 : n0 ≤ h0.size) (Fc : Fld Z h0 sa oS "coder" "B" (.int kc)) (hkc : kc = (0 : Int32) ∨ kc = (1 : Int32)) (Cs : Sta Z Z.heap oS "COMPACT_STRINGS" "Z" (.int cs)) (hcs : ¬ (cs = (0 : Int32))) (Ox : Old Z n0 h0) :
    MetFree l oM13 (head1 (Jvm.Cond.code oM13 zc13 1 (some .byte) :: ws) oR0) (fun a U => a = #[(.ref sa)] ∧ Z.Warmed39 U.vm ∧ U.heap = h0) (fun _ _ _ _ _ => True) (fun _ U o U' => ∃ v L, o = .returned v ∧ Q18 Z sa kc cs h0 n0 v U'.heap L ∧ FrameEnd U o U' L oR0.cells oR0.slots) := by
  refine MetFree.of_bodySF (plainFor_of_name pn3) hisR ?_
  intro p e s m args below meth c s₁ Bd hml0 hP hK
  obtain ⟨rfl, hZ, hh⟩ := hP
  have hx := Bd.exec
  have hby := Bd.bytes
  have hml : c.maxLocals = 1 := hml0
  have hown : s.vm.findClass oS = some m.cls := findClass_of_methodNamed Bd.named
  have X0 : Stand p l e oR0 s m #[(.ref sa)] below meth c s₁ [] 0 0 := Stand.of_body Bd
  have e0 : s₁.heap = h0 := by rw [← hh, Bd.state]; rfl
  have N0 := Fr.nil n0
  have pre0 := own_pre (p := p) (e := e) (below := below) (s₁ := s₁) (ef18 m sa)
  obtain ⟨T1, X1, e1, st1⟩ := getS2 X0 hx hZ hown (host := "") (Or.inl (ow hw 5 rfl)) Via.refl e0 (Cs.ext Ox.2) (g := (mkF m 0 #[oa sa] [])) rfl (hb hby d18_0)
  obtain ⟨T2, X2, e2, st2⟩ := getF X1 hx hZ hown (host := "") (Or.inl (ow hw 25 rfl)) Via.refl e1 Fc (g := (mkF m 7 #[oa sa] [(.ref sa)])) rfl rfl (hb hby d18_7)
  obtain ⟨fsZ, hrZ, hrun, hended, hW, hsame⟩ := X2.leave (v := some (.int kc)) (fun h => by rw [Bd.returns] at h; cases h)
  refine ⟨_, _, pre0 _ ?_, hrun, hended, _, _, rfl, ?_, ⟨_, rfl⟩, hW, hsame.mono (by decide) (by decide)⟩
  · show Steps _ _ _ (s₁.setTop (mkF m 0 #[oa sa] [])) _
    refine st1 _ ?_
    refine XS.ifNo X1.here hx rfl (hb hby d18_3) rfl ((if0 _ _).trans (feq hcs).1) ?_
    refine XS.aloadN X1.here hx rfl (hb hby d18_6) rfl rfl ?_
    refine st2 _ ?_
    refine XS.goto X2.here hx rfl (pc0 := 10) (pc' := 14) rfl (hb hby d18_10) (by decide) (by decide) ?_
    show Steps _ _ _ (T2.setTop (mkF m 14 #[oa sa] [(.int kc)])) _
    exact retN X2 hx (t := .byte) Bd.returns (by simp) (hb hby d18_14) (fun f acts x1 x2 x3 => by rw [(show nar .byte kc = kc from by rcases hkc with rfl | rfl <;> decide)]; exact hrZ f acts x1 x2 x3)
  · show Q18 Z sa kc cs h0 n0 _ T2.heap _
    rw [e2]
    exact ⟨rfl, N0, rfl⟩
theorem d17_0 : decode zc14 0 = .ok (.aload_n 0, 1) := by decide +kernel
theorem d17_1 : decode zc14 1 = .ok (.getfield 9, 3) := by decide +kernel
theorem d17_4 : decode zc14 4 = .ok (.arraylength, 1) := by decide +kernel
theorem d17_5 : decode zc14 5 = .ok (.aload_n 0, 1) := by decide +kernel
theorem d17_6 : decode zc14 6 = .ok (.invokevirtual 335, 3) := by decide +kernel
theorem pd11 : parseMethodDescriptor "()B" = some ⟨[], some .byte⟩ := by decide +kernel
theorem d17_9 : decode zc14 9 = .ok (.ishr, 1) := by decide +kernel
theorem d17_10 : decode zc14 10 = .ok (.ireturn, 1) := by decide +kernel
theorem ef17 (m : MethodId) (sa : Addr) : entryFrame m #[(.ref sa)] 1 = mkF m 0 #[oa sa] [] := by first | (simp [entryFrame, mkF, argsToLocals, Value.category]; done) | rfl
def Q17 (Z : State) (sa : Addr) (vb : Addr) (kb : ClassId) (kc : Int32) (nb : Int32) (vs : List Value) (cs : Int32) (ln : Int32) (h0 : Heap) (n0 : Nat) (v : Option Value) (h : Heap) (L : List Loc) : Prop := v = some (.int ln) ∧ Fr n0 L ∧ h = h0
theorem rm17 (l : Launch) (Z : State) (a0 : Array Value) (hw : ∀ d ∈ tables_1, d.before a0 Z = true) (ws : List Jvm.Cond) (sa : Addr) (vb : Addr) (kb : ClassId) (kc : Int32) (nb : Int32) (vs : List Value) (cs : Int32) (ln : Int32) (h0 : Heap) (n0 : Nat) (Z0 : n0 ≤ h0.size) (F0 : Exa Z h0 sa oS) (F1 : Fld Z h0 sa oS "coder" "B" (.int kc)) (F2 : Fld Z h0 sa oS "value" "[B" (.ref vb)) (F3 : Arv Z h0 vb kb .byte nb vs (.int 0)) (hkc : kc = (0 : Int32) ∨ kc = (1 : Int32)) (Cs : Sta Z Z.heap oS "COMPACT_STRINGS" "Z" (.int cs)) (hcs : ¬ (cs = (0 : Int32))) (Ox : Old Z n0 h0) (hln : (nb >>> (kc &&& 31)) = ln) :
    MetFree l oM14 (head1 (Jvm.Cond.code oM14 zc14 1 (some .int) :: ws) oR6) (fun a U => a = #[(.ref sa)] ∧ Z.Warmed39 U.vm ∧ U.heap = h0) (fun _ _ _ _ _ => True) (fun _ U o U' => ∃ v L, o = .returned v ∧ Q17 Z sa vb kb kc nb vs cs ln h0 n0 v U'.heap L ∧ FrameEnd U o U' L oR6.cells oR6.slots) := by
  refine MetFree.of_bodySF (plainFor_of_name pn3) hisR ?_
  intro p e s m args below meth c s₁ Bd hml0 hP hK
  obtain ⟨rfl, hZ, hh⟩ := hP
  have hx := Bd.exec
  have hby := Bd.bytes
  have hml : c.maxLocals = 1 := hml0
  have hown : s.vm.findClass oS = some m.cls := findClass_of_methodNamed Bd.named
  have X0 : Stand p l e oR6 s m #[(.ref sa)] below meth c s₁ [] 0 0 := Stand.of_body Bd
  have e0 : s₁.heap = h0 := by rw [← hh, Bd.state]; rfl
  have N0 := Fr.nil n0
  have pre0 := own_pre (p := p) (e := e) (below := below) (s₁ := s₁) (ef17 m sa)
  obtain ⟨T1, X1, e1, st1⟩ := getF X0 hx hZ hown (host := "") (Or.inl (ow hw 23 rfl)) Via.refl e0 F2 (g := (mkF m 1 #[oa sa] [(.ref sa)])) rfl rfl (hb hby d17_1)
  obtain ⟨c2, Arc2, -, Sc2, Mc2, -, -⟩ := id F3
  obtain ⟨cq3, kq3, q3a, q3b, q3c⟩ := isOf hZ e1 F0
  obtain ⟨_, _, ⟨T3, L3, k3, n3⟩, -, X3, ⟨Lc3, hQ3, l3, y3, z3⟩, st3⟩ := X1.virtualBack hx (y := oM13) (z := oM13) hown (mvT hZ (ow hw 100 rfl)) (mvT hZ (ow hw 101 rfl)) (notFace_of_selects (args := #[]) (mvT hZ (ow hw 103 rfl))) (mvT hZ (ow hw 103 rfl)) (mvT hZ (ow hw 102 rfl)) (by decide) (backOf (W := 1) (rm18 l Z a0 hw [] sa kc cs h0 n0 Z0 F1 hkc Cs hcs Ox) hZ (ow hw 104 rfl) (ow hw 3 rfl) (by decide) (by decide)) q3a q3c (g := (mkF m 6 #[oa sa] [(.ref sa), (.int nb)])) rfl (by rw [hml]; rfl) (Steps.refl _) (argsL := []) (rest := [(.int nb)]) (lenOf pd11 rfl) rfl (Nat.le_of_eq rfl) (hb hby d17_6) (fun _ _ => ⟨rfl, e1, (by decide : 0 + 0 ≤ _), (by decide : 0 + 0 ≤ _)⟩)
  dsimp only [Pt.U, Pt.locs, Pt.cells, Pt.slots] at X3 l3 y3 z3 st3 hQ3
  subst l3 y3 z3
  obtain ⟨rfl, N3q, e3⟩ := hQ3
  have N3 := Fr.app N0 N3q
  obtain ⟨fsZ, hrZ, hrun, hended, hW, hsame⟩ := X3.leave (v := some (.int (nb >>> (kc &&& 31)))) (fun h => by rw [Bd.returns] at h; cases h)
  refine ⟨_, _, pre0 _ ?_, hrun, hended, _, _, rfl, ?_, ⟨_, rfl⟩, hW, hsame.mono (by decide) (by decide)⟩
  · show Steps _ _ _ (s₁.setTop (mkF m 0 #[oa sa] [])) _
    refine XS.aloadN X0.here hx rfl (hb hby d17_0) rfl rfl ?_
    refine st1 _ ?_
    show Steps _ _ _ (T1.setTop (mkF m 4 #[oa sa] [(.ref vb)])) _
    refine X1.arraylength hx (by rw [e1]; exact Arc2.1) (State.isArrayOf_alike hZ.alike Arc2.2.1) (g := (mkF m 4 #[oa sa] [(.ref vb)])) rfl rfl (hb hby d17_4) _ ?_
    rw [len_of Sc2 Mc2]
    show Steps _ _ _ (T1.setTop (mkF m 5 #[oa sa] [(.int nb)])) _
    refine XS.aloadN X1.here hx rfl (hb hby d17_5) rfl rfl ?_
    refine st3.trans ?_
    refine XS.ishr X3.here hx rfl (hb hby d17_9) rfl ?_
    show Steps _ _ _ (T3.setTop (mkF m 10 #[oa sa] [(.int (nb >>> (kc &&& 31)))])) _
    exact retI X3 hx Bd.returns (hb hby d17_10) hrZ
  · show Q17 Z sa vb kb kc nb vs cs ln h0 n0 _ T3.heap _
    rw [e3]
    exact ⟨(congrArg (fun z => some (Value.int z)) hln), N3, rfl⟩
theorem d35_0 : decode zc15 0 = .ok (.aload_n 0, 1) := by decide +kernel
theorem d35_1 : decode zc15 1 = .ok (.invokevirtual 492, 3) := by decide +kernel
theorem pd12 : parseMethodDescriptor "()Z" = some ⟨[], some .boolean⟩ := by decide +kernel
theorem d35_4 : decode zc15 4 = .ok (.ifCond .eq 12, 3) := by decide +kernel
theorem d35_7 : decode zc15 7 = .ok (.aload_n 0, 1) := by decide +kernel
theorem d35_8 : decode zc15 8 = .ok (.getfield 9, 3) := by decide +kernel
theorem d35_11 : decode zc15 11 = .ok (.iload_n 1, 1) := by decide +kernel
theorem d35_12 : decode zc15 12 = .ok (.invokestatic 495, 3) := by decide +kernel
theorem d35_15 : decode zc15 15 = .ok (.ireturn, 1) := by decide +kernel
theorem d35_16 : decode zc15 16 = .ok (.aload_n 0, 1) := by decide +kernel
theorem d35_17 : decode zc15 17 = .ok (.getfield 9, 3) := by decide +kernel
theorem d35_20 : decode zc15 20 = .ok (.iload_n 1, 1) := by decide +kernel
theorem d35_21 : decode zc15 21 = .ok (.invokestatic 498, 3) := by decide +kernel
theorem d35_24 : decode zc15 24 = .ok (.ireturn, 1) := by decide +kernel
theorem ef35 (m : MethodId) (sa : Addr) (i : Int32) : entryFrame m #[(.ref sa), (.int i)] 2 = mkF m 0 #[oa sa, oi i] [] := by first | (simp [entryFrame, mkF, argsToLocals, Value.category]; done) | rfl
def Q35 (Z : State) (sa : Addr) (i : Int32) (vb : Addr) (kb : ClassId) (kc : Int32) (nb : Int32) (vs : List Value) (us : List Int32) (uc : Int32) (cs : Int32) (fm : Value) (h0 : Heap) (n0 : Nat) (v : Option Value) (h : Heap) (L : List Loc) : Prop := v = some (.int uc) ∧ Fr n0 L ∧ h = h0
theorem rm35 (l : Launch) (Z : State) (a0 : Array Value) (hw : ∀ d ∈ tables_1, d.before a0 Z = true) (ws : List Jvm.Cond) (sa : Addr) (i : Int32) (vb : Addr) (kb : ClassId) (kc : Int32) (nb : Int32) (vs : List Value) (us : List Int32) (uc : Int32) (cs : Int32) (fm : Value) (h0 : Heap) (n0 : Nat) (Z0 : n0 ≤ h0.size) (F0 : Exa Z h0 sa oS) (F1 : Fld Z h0 sa oS "coder" "B" (.int kc)) (F2 : Fld Z h0 sa oS "value" "[B" (.ref vb)) (F3 : Arv Z h0 vb kb .byte nb vs (.int 0)) (henc : own_enc us kc nb vs) (hch : own_ch uc) (hg : us[i.toNatClampNeg]? = some uc) (hi0 : ¬ (i < (0 : Int32))) (Cs : Sta Z Z.heap oS "COMPACT_STRINGS" "Z" (.int cs)) (hcs : ¬ (cs = (0 : Int32))) (Ox : Old Z n0 h0) (Fm : Sta Z Z.heap "jdk/internal/util/Preconditions" "SIOOBE_FORMATTER" "Ljava/util/function/BiFunction;" fm) (hfm : fm.isRef = true) (Ua : Sta Z Z.heap o6 "$assertionsDisabled" "Z" (.int 1)) (Uh : Sta Z Z.heap o6 "HI_BYTE_SHIFT" "I" (.int 0)) (Ul : Sta Z Z.heap o6 "LO_BYTE_SHIFT" "I" (.int 8)) :
    MetFree l oM15 (head1 (Jvm.Cond.code oM15 zc15 2 (some .char) :: ws) oR7) (fun a U => a = #[(.ref sa), (.int i)] ∧ Z.Warmed39 U.vm ∧ U.heap = h0) (fun _ _ _ _ _ => True) (fun _ U o U' => ∃ v L, o = .returned v ∧ Q35 Z sa i vb kb kc nb vs us uc cs fm h0 n0 v U'.heap L ∧ FrameEnd U o U' L oR7.cells oR7.slots) := by
  refine MetFree.of_bodySF (plainFor_of_name pn3) hisR ?_
  intro p e s m args below meth c s₁ Bd hml0 hP hK
  obtain ⟨rfl, hZ, hh⟩ := hP
  have hx := Bd.exec
  have hby := Bd.bytes
  have hml : c.maxLocals = 2 := hml0
  have hown : s.vm.findClass oS = some m.cls := findClass_of_methodNamed Bd.named
  have X0 : Stand p l e oR7 s m #[(.ref sa), (.int i)] below meth c s₁ [] 0 0 := Stand.of_body Bd
  have e0 : s₁.heap = h0 := by rw [← hh, Bd.state]; rfl
  have N0 := Fr.nil n0
  have pre0 := own_pre (p := p) (e := e) (below := below) (s₁ := s₁) (ef35 m sa i)
  obtain ⟨hchs, hlen, hor⟩ := henc
  rcases hor with ⟨hla, hk, hnb, hvs⟩ | ⟨hla, hk, hnb, hvs⟩
  ·  -- coder 0
    have Fk : Fld Z h0 sa oS "coder" "B" (.int 0) := by rw [← hk]; exact F1
    have Vk : Arv Z h0 vb kb .byte nb (own_lb us) (.int 0) := by rw [← hvs]; exact F3
    obtain ⟨cq1, kq1, q1a, q1b, q1c⟩ := isOf hZ e0 F0
    obtain ⟨_, _, ⟨T1, L1, k1, n1⟩, -, X1, ⟨Lc1, hQ1, l1, y1, z1⟩, st1⟩ := X0.virtualBack hx (y := oM12) (z := oM12) hown (mvT hZ (ow hw 190 rfl)) (mvT hZ (ow hw 191 rfl)) (notFace_of_selects (args := #[]) (mvT hZ (ow hw 193 rfl))) (mvT hZ (ow hw 193 rfl)) (mvT hZ (ow hw 192 rfl)) (by decide) (backOf (W := 0) (rm36k0 l Z a0 hw [] sa cs h0 n0 Z0 Fk Cs hcs Ox) hZ (ow hw 194 rfl) (ow hw 3 rfl) (by decide) (by decide)) q1a q1c (g := (mkF m 1 #[oa sa, oi i] [(.ref sa)])) rfl (by rw [hml]; rfl) (Steps.refl _) (argsL := []) (rest := []) (lenOf pd12 rfl) rfl (Nat.le_of_eq rfl) (hb hby d35_1) (fun _ _ => ⟨rfl, e0, (by decide : 0 + 0 ≤ _), (by decide : 0 + 0 ≤ _)⟩)
    dsimp only [Pt.U, Pt.locs, Pt.cells, Pt.slots] at X1 l1 y1 z1 st1 hQ1
    subst l1 y1 z1
    obtain ⟨rfl, N1q, e1⟩ := hQ1
    have N1 := Fr.app N0 N1q
    obtain ⟨T2, X2, e2, st2⟩ := getF X1 hx hZ hown (host := "") (Or.inl (ow hw 23 rfl)) Via.refl e1 F2 (g := (mkF m 8 #[oa sa, oi i] [(.ref sa)])) rfl rfl (hb hby d35_8)
    obtain ⟨_, _, ⟨T3, L3, k3, n3⟩, -, X3, ⟨Lc3, hQ3, l3, y3, z3⟩, st3⟩ := Jvm.LawKit.callS X2 hx (y := oM11) hown (mvT hZ (ow hw 195 rfl)) (mvT hZ (ow hw 196 rfl)) (mvT hZ (ow hw 8 rfl)) (mvT hZ (ow hw 197 rfl)) (by decide) (backOf (W := 0) (rm37 l Z a0 hw [] vb i kb nb us uc fm h0 n0 Z0 Vk Fm hfm Ox hch hg hi0 (hla uc (List.mem_of_getElem? hg)) (own_in1 hg hi0 hnb)) hZ (ow hw 197 rfl) (ow hw 8 rfl) (by decide) (by decide)) (g := (mkF m 12 #[oa sa, oi i] [(.int i), (.ref vb)])) rfl (by rw [hml]; rfl) (argsL := [(.ref vb), (.int i)]) (rest := []) (lenOf pd10 rfl) rfl (Nat.le_of_eq rfl) (hb hby d35_12) (fun _ _ => ⟨rfl, e2, (by decide : 0 + 0 ≤ _), (by decide : 0 + 0 ≤ _)⟩)
    dsimp only [Pt.U, Pt.locs, Pt.cells, Pt.slots] at X3 l3 y3 z3 st3 hQ3
    subst l3 y3 z3
    obtain ⟨rfl, N3q, e3⟩ := hQ3
    have N3 := Fr.app N1 N3q
    obtain ⟨fsZ, hrZ, hrun, hended, hW, hsame⟩ := X3.leave (v := some (.int uc)) (fun h => by rw [Bd.returns] at h; cases h)
    refine ⟨_, _, pre0 _ ?_, hrun, hended, _, _, rfl, ?_, ⟨_, rfl⟩, hW, hsame.mono (by decide) (by decide)⟩
    · show Steps _ _ _ (s₁.setTop (mkF m 0 #[oa sa, oi i] [])) _
      refine XS.aloadN X0.here hx rfl (hb hby d35_0) rfl rfl ?_
      refine st1.trans ?_
      refine XS.ifNo X1.here hx rfl (hb hby d35_4) rfl ((if0 _ _).trans (feq (by decide)).1) ?_
      refine XS.aloadN X1.here hx rfl (hb hby d35_7) rfl rfl ?_
      refine st2 _ ?_
      refine XS.iloadN X2.here hx rfl (hb hby d35_11) rfl  ?_
      refine st3 _ ?_
      show Steps _ _ _ (T3.setTop (mkF m 15 #[oa sa, oi i] [(.int uc)])) _
      exact retN X3 hx (t := .char) Bd.returns (by simp) (hb hby d35_15) (fun f acts x1 x2 x3 => by rw [(show nar .char uc = uc from own_i2c hch)]; exact hrZ f acts x1 x2 x3)
    · show Q35 Z sa i vb kb kc nb vs us uc cs fm h0 n0 _ T3.heap _
      rw [e3]
      exact ⟨rfl, N3, rfl⟩
  ·  -- coder 1
    have Fk : Fld Z h0 sa oS "coder" "B" (.int 1) := by rw [← hk]; exact F1
    have Vk : Arv Z h0 vb kb .byte nb (own_ub us) (.int 0) := by rw [← hvs]; exact F3
    obtain ⟨cq4, kq4, q4a, q4b, q4c⟩ := isOf hZ e0 F0
    obtain ⟨_, _, ⟨T4, L4, k4, n4⟩, -, X4, ⟨Lc4, hQ4, l4, y4, z4⟩, st4⟩ := X0.virtualBack hx (y := oM12) (z := oM12) hown (mvT hZ (ow hw 190 rfl)) (mvT hZ (ow hw 191 rfl)) (notFace_of_selects (args := #[]) (mvT hZ (ow hw 193 rfl))) (mvT hZ (ow hw 193 rfl)) (mvT hZ (ow hw 192 rfl)) (by decide) (backOf (W := 0) (rm36k1 l Z a0 hw [] sa cs h0 n0 Z0 Fk Cs hcs Ox) hZ (ow hw 194 rfl) (ow hw 3 rfl) (by decide) (by decide)) q4a q4c (g := (mkF m 1 #[oa sa, oi i] [(.ref sa)])) rfl (by rw [hml]; rfl) (Steps.refl _) (argsL := []) (rest := []) (lenOf pd12 rfl) rfl (Nat.le_of_eq rfl) (hb hby d35_1) (fun _ _ => ⟨rfl, e0, (by decide : 0 + 0 ≤ _), (by decide : 0 + 0 ≤ _)⟩)
    dsimp only [Pt.U, Pt.locs, Pt.cells, Pt.slots] at X4 l4 y4 z4 st4 hQ4
    subst l4 y4 z4
    obtain ⟨rfl, N4q, e4⟩ := hQ4
    have N4 := Fr.app N0 N4q
    obtain ⟨T5, X5, e5, st5⟩ := getF X4 hx hZ hown (host := "") (Or.inl (ow hw 23 rfl)) Via.refl e4 F2 (g := (mkF m 17 #[oa sa, oi i] [(.ref sa)])) rfl rfl (hb hby d35_17)
    obtain ⟨_, _, ⟨T6, L6, k6, n6⟩, -, X6, ⟨Lc6, hQ6, l6, y6, z6⟩, st6⟩ := Jvm.LawKit.callS X5 hx (y := oM10) hown (mvT hZ (ow hw 257 rfl)) (mvT hZ (ow hw 258 rfl)) (mvT hZ (ow hw 37 rfl)) (mvT hZ (ow hw 259 rfl)) (by decide) (backOf (W := 0) (rm53 l Z a0 hw [] vb i kb nb us uc fm h0 n0 Z0 Vk Fm hfm Ox Ua Uh Ul hch hg hi0 (own_in2 hg hi0 hnb).1 (own_in2 hg hi0 hnb).2) hZ (ow hw 259 rfl) (ow hw 37 rfl) (by decide) (by decide)) (g := (mkF m 21 #[oa sa, oi i] [(.int i), (.ref vb)])) rfl (by rw [hml]; rfl) (argsL := [(.ref vb), (.int i)]) (rest := []) (lenOf pd10 rfl) rfl (Nat.le_of_eq rfl) (hb hby d35_21) (fun _ _ => ⟨rfl, e5, (by decide : 0 + 0 ≤ _), (by decide : 0 + 0 ≤ _)⟩)
    dsimp only [Pt.U, Pt.locs, Pt.cells, Pt.slots] at X6 l6 y6 z6 st6 hQ6
    subst l6 y6 z6
    obtain ⟨rfl, N6q, e6⟩ := hQ6
    have N6 := Fr.app N4 N6q
    obtain ⟨fsZ, hrZ, hrun, hended, hW, hsame⟩ := X6.leave (v := some (.int uc)) (fun h => by rw [Bd.returns] at h; cases h)
    refine ⟨_, _, pre0 _ ?_, hrun, hended, _, _, rfl, ?_, ⟨_, rfl⟩, hW, hsame.mono (by decide) (by decide)⟩
    · show Steps _ _ _ (s₁.setTop (mkF m 0 #[oa sa, oi i] [])) _
      refine XS.aloadN X0.here hx rfl (hb hby d35_0) rfl rfl ?_
      refine st4.trans ?_
      refine XS.ifYes X4.here hx rfl (pc0 := 4) (pc' := 16) rfl (hb hby d35_4) rfl ((if0 _ _).trans (teq (by decide)).1) (by decide) (by decide) ?_
      refine XS.aloadN X4.here hx rfl (hb hby d35_16) rfl rfl ?_
      refine st5 _ ?_
      refine XS.iloadN X5.here hx rfl (hb hby d35_20) rfl  ?_
      refine st6 _ ?_
      show Steps _ _ _ (T6.setTop (mkF m 24 #[oa sa, oi i] [(.int uc)])) _
      exact retN X6 hx (t := .char) Bd.returns (by simp) (hb hby d35_24) (fun f acts x1 x2 x3 => by rw [(show nar .char uc = uc from own_i2c hch)]; exact hrZ f acts x1 x2 x3)
    · show Q35 Z sa i vb kb kc nb vs us uc cs fm h0 n0 _ T6.heap _
      rw [e6]
      exact ⟨rfl, N6, rfl⟩
theorem d3_0 : decode zc16 0 = .ok (.iconst 1, 1) := by decide +kernel
theorem d3_1 : decode zc16 1 = .ok (.newarray .byte, 2) := by decide +kernel
theorem d3_3 : decode zc16 3 = .ok (.dup, 1) := by decide +kernel
theorem d3_4 : decode zc16 4 = .ok (.iconst 0, 1) := by decide +kernel
theorem d3_5 : decode zc16 5 = .ok (.iload_n 0, 1) := by decide +kernel
theorem d3_6 : decode zc16 6 = .ok (.i2b, 1) := by decide +kernel
theorem d3_7 : decode zc16 7 = .ok (.bastore, 1) := by decide +kernel
theorem d3_8 : decode zc16 8 = .ok (.areturn, 1) := by decide +kernel
theorem ef3 (m : MethodId) (uc : Int32) : entryFrame m #[(.int uc)] 1 = mkF m 0 #[oi uc] [] := by first | (simp [entryFrame, mkF, argsToLocals, Value.category]; done) | rfl
def Q3 (Z : State) (uc : Int32) (h0 : Heap) (n0 : Nat) (v : Option Value) (h : Heap) (L : List Loc) : Prop := ∃ (vb : Addr) (kb : ClassId), v = some (.ref vb) ∧ Fr n0 L ∧ Keep h0 h [] ∧ n0 ≤ vb ∧ h0.size ≤ vb ∧ Arv Z h vb kb .byte (1 : Int32) (own_lb [uc]) (.int 0)
theorem rm3 (l : Launch) (Z : State) (a0 : Array Value) (hw : ∀ d ∈ tables_1, d.before a0 Z = true) (ws : List Jvm.Cond) (uc : Int32) (h0 : Heap) (n0 : Nat) (Z0 : n0 ≤ h0.size) :
    MetFree l oM16 (head1 (Jvm.Cond.code oM16 zc16 1 (some (.array .byte)) :: ws) oR8) (fun a U => a = #[(.int uc)] ∧ Z.Warmed39 U.vm ∧ U.heap = h0) (fun _ _ _ _ _ => True) (fun _ U o U' => ∃ v L, o = .returned v ∧ Q3 Z uc h0 n0 v U'.heap L ∧ FrameEnd U o U' L oR8.cells oR8.slots) := by
  refine MetFree.of_bodySF (plainFor_of_name pn0) hisR ?_
  intro p e s m args below meth c s₁ Bd hml0 hP hK
  obtain ⟨rfl, hZ, hh⟩ := hP
  have hx := Bd.exec
  have hby := Bd.bytes
  have hml : c.maxLocals = 1 := hml0
  have hown : s.vm.findClass "java/lang/StringLatin1" = some m.cls := findClass_of_methodNamed Bd.named
  have X0 : Stand p l e oR8 s m #[(.int uc)] below meth c s₁ [] 0 0 := Stand.of_body Bd
  have e0 : s₁.heap = h0 := by rw [← hh, Bd.state]; rfl
  have N0 := Fr.nil n0
  have pre0 := own_pre (p := p) (e := e) (below := below) (s₁ := s₁) (ef3 m uc)
  obtain ⟨T1, h1, k1, X1, e1, E1, A1, st1⟩ := newP X0 hx hZ (ow hw 15 rfl) e0 (g := (mkF m 1 #[oi uc] [(.int 1)])) rfl (hb hby d3_1) rfl (by decide) (cap := 1) (by decide) (by decide) (by decide) (by decide)
  obtain ⟨b1, g1⟩ : ∃ z, z = h0.size := ⟨_, rfl⟩
  rw [← g1] at A1 st1
  have gn_b1 : n0 ≤ b1 := Nat.le_trans Z0 (Nat.le_of_eq g1.symm)
  have sz_b1 : h0.size ≤ b1 := Nat.le_trans (Keep.refl h0 []).1 (Nat.le_of_eq g1.symm)
  have Z2 : n0 ≤ h1.size := Nat.le_trans Z0 E1.1
  have K3 : Keep h0 h1 [] := (Keep.refl h0 []).ext E1
  have V1 : Arv Z h1 b1 k1 .byte (1 : Int32) [(.int 0)] (.int 0) := (Arv.new A1 (by decide)).pad (pad_rep [] (.int 0) 1)
  obtain ⟨c4, Arc4, qc4, Sc4, Mc4, Hc4, Gc4⟩ := id V1
  have hinc4 : ¬ ((0 : Int32) < 0 ∨ c4.slots.size ≤ ((0 : Int32)).toNatClampNeg) := inb_of Sc4 ⟨by decide, by decide⟩
  obtain ⟨T5, h5, X5, e5, W5, st5⟩ := stB X1 hx hZ e1 Arc4 (j := (0 : Int32)) hinc4  (g := (mkF m 7 #[oi uc] [(.int (uc.toInt8.toInt32)), (.int 0), (.ref b1), (.ref b1)])) rfl rfl (hb hby d3_7)
  have V5 : Arv Z h5 b1 k1 .byte (1 : Int32) [(.int ((uc.toInt8.toInt32).toInt8.toInt32))] (.int 0) := Arv.set Arc4 qc4 Sc4 Mc4 Hc4 Gc4 (fits_nar_byte _) W5 0 rfl (Nat.le_of_ble_eq_true rfl)
  have Z6 : n0 ≤ h5.size := Nat.le_trans Z2 (Nat.le_of_eq W5.size.symm)
  have K7 : Keep h0 h5 [] := K3.wr W5 (Or.inr sz_b1)
  have N5 := Fr.snoc X5 N0 gn_b1
  obtain ⟨fsZ, hrZ, hrun, hended, hW, hsame⟩ := X5.leave (v := some (.ref b1)) (fun h => by rw [Bd.returns] at h; cases h)
  refine ⟨_, _, pre0 _ ?_, hrun, hended, _, _, rfl, ?_, ⟨_, rfl⟩, hW, hsame.mono (by decide) (by decide)⟩
  · show Steps _ _ _ (s₁.setTop (mkF m 0 #[oi uc] [])) _
    refine XS.iconst X0.here hx rfl (hb hby d3_0) ?_
    refine st1 _ ?_
    refine XS.dup X1.here hx rfl (hb hby d3_3) rfl rfl ?_
    refine XS.iconst X1.here hx rfl (hb hby d3_4) ?_
    refine XS.iloadN X1.here hx rfl (hb hby d3_5) rfl  ?_
    refine XS.i2b X1.here hx rfl (hb hby d3_6) rfl ?_
    refine st5 _ ?_
    show Steps _ _ _ (T5.setTop (mkF m 8 #[oi uc] [(.ref b1)])) _
    jvm_step X5.here [X5.here.top, hx, (hb hby d3_8), X5.method', Bd.returns, Value.isRef, FieldType.isReference]
    first | (intro acts; rw [hrZ _ acts rfl rfl rfl]) | rw [hrZ _ _ rfl rfl rfl]
    exact Steps.refl _
  · show Q3 Z uc h0 n0 _ T5.heap _
    rw [e5]
    exact ⟨b1, k1, rfl, N5, K7, gn_b1, sz_b1, (by have q := V5; simp only [own_88] at q; exact q)⟩
theorem d40_0 : decode zc17 0 = .ok (.iconst 2, 1) := by decide +kernel
theorem d40_1 : decode zc17 1 = .ok (.newarray .byte, 2) := by decide +kernel
theorem d40_3 : decode zc17 3 = .ok (.astore_n 1, 1) := by decide +kernel
theorem d40_4 : decode zc17 4 = .ok (.aload_n 1, 1) := by decide +kernel
theorem d40_5 : decode zc17 5 = .ok (.iconst 0, 1) := by decide +kernel
theorem d40_6 : decode zc17 6 = .ok (.iload_n 0, 1) := by decide +kernel
theorem d40_7 : decode zc17 7 = .ok (.invokestatic 111, 3) := by decide +kernel
theorem pd13 : parseMethodDescriptor "([BII)V" = some ⟨[(.array .byte), .int, .int], none⟩ := by decide +kernel
theorem d40_10 : decode zc17 10 = .ok (.aload_n 1, 1) := by decide +kernel
theorem d40_11 : decode zc17 11 = .ok (.areturn, 1) := by decide +kernel
theorem ef40 (m : MethodId) (uc : Int32) : entryFrame m #[(.int uc)] 2 = mkF m 0 #[oi uc, .unset] [] := by first | (simp [entryFrame, mkF, argsToLocals, Value.category]; done) | rfl
def Q40 (Z : State) (uc : Int32) (h0 : Heap) (n0 : Nat) (v : Option Value) (h : Heap) (L : List Loc) : Prop := ∃ (vb : Addr) (kb : ClassId), v = some (.ref vb) ∧ Fr n0 L ∧ Keep h0 h [] ∧ n0 ≤ vb ∧ h0.size ≤ vb ∧ Arv Z h vb kb .byte (2 : Int32) (own_ub [uc]) (.int 0)
theorem rm40 (l : Launch) (Z : State) (a0 : Array Value) (hw : ∀ d ∈ tables_1, d.before a0 Z = true) (ws : List Jvm.Cond) (uc : Int32) (h0 : Heap) (n0 : Nat) (Z0 : n0 ≤ h0.size) (Ox : Old Z n0 h0) (Ua : Sta Z Z.heap o6 "$assertionsDisabled" "Z" (.int 1)) (Uh : Sta Z Z.heap o6 "HI_BYTE_SHIFT" "I" (.int 0)) (Ul : Sta Z Z.heap o6 "LO_BYTE_SHIFT" "I" (.int 8)) :
    MetFree l oM17 (head1 (Jvm.Cond.code oM17 zc17 2 (some (.array .byte)) :: ws) oR9) (fun a U => a = #[(.int uc)] ∧ Z.Warmed39 U.vm ∧ U.heap = h0) (fun _ _ _ _ _ => True) (fun _ U o U' => ∃ v L, o = .returned v ∧ Q40 Z uc h0 n0 v U'.heap L ∧ FrameEnd U o U' L oR9.cells oR9.slots) := by
  refine MetFree.of_bodySF (plainFor_of_name pn1) hisR ?_
  intro p e s m args below meth c s₁ Bd hml0 hP hK
  obtain ⟨rfl, hZ, hh⟩ := hP
  have hx := Bd.exec
  have hby := Bd.bytes
  have hml : c.maxLocals = 2 := hml0
  have hown : s.vm.findClass o6 = some m.cls := findClass_of_methodNamed Bd.named
  have X0 : Stand p l e oR9 s m #[(.int uc)] below meth c s₁ [] 0 0 := Stand.of_body Bd
  have e0 : s₁.heap = h0 := by rw [← hh, Bd.state]; rfl
  have N0 := Fr.nil n0
  have pre0 := own_pre (p := p) (e := e) (below := below) (s₁ := s₁) (ef40 m uc)
  obtain ⟨T1, h1, k1, X1, e1, E1, A1, st1⟩ := newP X0 hx hZ (ow hw 15 rfl) e0 (g := (mkF m 1 #[oi uc, .unset] [(.int 2)])) rfl (hb hby d40_1) rfl (by decide) (cap := 2) (by decide) (by decide) (by decide) (by decide)
  obtain ⟨b1, g1⟩ : ∃ z, z = h0.size := ⟨_, rfl⟩
  rw [← g1] at A1 st1
  have gn_b1 : n0 ≤ b1 := Nat.le_trans Z0 (Nat.le_of_eq g1.symm)
  have sz_b1 : h0.size ≤ b1 := Nat.le_trans (Keep.refl h0 []).1 (Nat.le_of_eq g1.symm)
  have Z2 : n0 ≤ h1.size := Nat.le_trans Z0 E1.1
  have K3 : Keep h0 h1 [] := (Keep.refl h0 []).ext E1
  have V1 : Arv Z h1 b1 k1 .byte (2 : Int32) [] (.int 0) := (Arv.new A1 (by decide)).pad (pad_rep [] (.int 0) 0)
  have fa4 := (Ox.ext E1)
  obtain ⟨_, _, ⟨T5, L5, k5, n5⟩, -, X5, ⟨Lc5, hQ5, l5, y5, z5⟩, st5⟩ := Jvm.LawKit.callS X1 hx (y := oM8) hown (mvT hZ (ow hw 209 rfl)) (mvT hZ (ow hw 210 rfl)) (mvT hZ (ow hw 37 rfl)) (mvT hZ (ow hw 211 rfl)) (by decide) (backOf (W := 0) (rm41 l Z a0 hw [] b1 (0 : Int32) uc k1 (2 : Int32) [] h1 n0 Z2 V1 gn_b1 fa4 Ua Uh Ul (by first | assumption | decide | omega) (by first | assumption | decide | omega) rfl) hZ (ow hw 211 rfl) (ow hw 37 rfl) (by decide) (by decide)) (g := (mkF m 7 #[oi uc, oa b1] [(.int uc), (.int 0), (.ref b1)])) rfl (by rw [hml]; rfl) (argsL := [(.ref b1), (.int 0), (.int uc)]) (rest := []) (lenOf pd13 rfl) rfl (Nat.le_of_eq rfl) (hb hby d40_7) (fun _ _ => ⟨rfl, e1, (by decide : 1 + 0 ≤ _), (by decide : 2 + 0 ≤ _)⟩)
  dsimp only [Pt.U, Pt.locs, Pt.cells, Pt.slots] at X5 l5 y5 z5 st5 hQ5
  subst l5 y5 z5
  obtain ⟨rfl, N5q, K5, f5_0⟩ := hQ5
  have N5 := Fr.app N0 N5q
  have Z6 : n0 ≤ T5.heap.size := Nat.le_trans Z2 K5.1
  have K7 : Keep h0 T5.heap [] := K3.trans K5 (allS (P := fun x => x ∈ _ ∨ _) (Or.inr sz_b1) all0)
  obtain ⟨fsZ, hrZ, hrun, hended, hW, hsame⟩ := X5.leave (v := some (.ref b1)) (fun h => by rw [Bd.returns] at h; cases h)
  refine ⟨_, _, pre0 _ ?_, hrun, hended, _, _, rfl, ?_, ⟨_, rfl⟩, hW, hsame.mono (by decide) (by decide)⟩
  · show Steps _ _ _ (s₁.setTop (mkF m 0 #[oi uc, .unset] [])) _
    refine XS.iconst X0.here hx rfl (hb hby d40_0) ?_
    refine st1 _ ?_
    refine XS.astoreN X1.here hx rfl (hb hby d40_3) rfl rfl (l' := #[oi uc, oa b1]) rfl ?_
    refine XS.aloadN X1.here hx rfl (hb hby d40_4) rfl rfl ?_
    refine XS.iconst X1.here hx rfl (hb hby d40_5) ?_
    refine XS.iloadN X1.here hx rfl (hb hby d40_6) rfl  ?_
    refine st5 _ ?_
    refine XS.aloadN X5.here hx rfl (hb hby d40_10) rfl rfl ?_
    show Steps _ _ _ (T5.setTop (mkF m 11 #[oi uc, oa b1] [(.ref b1)])) _
    jvm_step X5.here [X5.here.top, hx, (hb hby d40_11), X5.method', Bd.returns, Value.isRef, FieldType.isReference]
    first | (intro acts; rw [hrZ _ acts rfl rfl rfl]) | rw [hrZ _ _ rfl rfl rfl]
    exact Steps.refl _
  · show Q40 Z uc h0 n0 _ T5.heap _
    exact ⟨b1, k1, rfl, N5, K7, gn_b1, sz_b1, f5_0⟩
theorem d44_0 : decode zc18 0 = .ok (.iload_n 0, 1) := by decide +kernel
theorem d44_1 : decode zc18 1 = .ok (.ifCond .ge 11, 3) := by decide +kernel
theorem d44_12 : decode zc18 12 = .ok (.iload_n 0, 1) := by decide +kernel
theorem d44_13 : decode zc18 13 = .ok (.ldc 20, 2) := by decide +kernel
theorem d44_15 : decode zc18 15 = .ok (.if_icmp .lt 40, 3) := by decide +kernel
theorem d44_55 : decode zc18 55 = .ok (.iload_n 0, 1) := by decide +kernel
theorem d44_56 : decode zc18 56 = .ok (.iconst 1, 1) := by decide +kernel
theorem d44_57 : decode zc18 57 = .ok (.ishl, 1) := by decide +kernel
theorem d44_58 : decode zc18 58 = .ok (.ireturn, 1) := by decide +kernel
theorem ef44n2 (m : MethodId)  : entryFrame m #[(.int 2)] 1 = mkF m 0 #[oi 2] [] := by first | (simp [entryFrame, mkF, argsToLocals, Value.category]; done) | rfl
def Q44n2 (Z : State)  (h0 : Heap) (n0 : Nat) (v : Option Value) (h : Heap) (L : List Loc) : Prop := v = some (.int 4) ∧ Fr n0 L ∧ h = h0
theorem rm44n2 (l : Launch) (Z : State) (a0 : Array Value) (hw : ∀ d ∈ tables_1, d.before a0 Z = true) (ws : List Jvm.Cond)  (h0 : Heap) (n0 : Nat) (Z0 : n0 ≤ h0.size) :
    MetFree l oM18 (head1 (Jvm.Cond.code oM18 zc18 1 (some .int) :: ws) oR0) (fun a U => a = #[(.int 2)] ∧ Z.Warmed39 U.vm ∧ U.heap = h0) (fun _ _ _ _ _ => True) (fun _ U o U' => ∃ v L, o = .returned v ∧ Q44n2 Z  h0 n0 v U'.heap L ∧ FrameEnd U o U' L oR0.cells oR0.slots) := by
  refine MetFree.of_bodySF (plainFor_of_name pn1) hisR ?_
  intro p e s m args below meth c s₁ Bd hml0 hP hK
  obtain ⟨rfl, hZ, hh⟩ := hP
  have hx := Bd.exec
  have hby := Bd.bytes
  have hml : c.maxLocals = 1 := hml0
  have hown : s.vm.findClass o6 = some m.cls := findClass_of_methodNamed Bd.named
  have X0 : Stand p l e oR0 s m #[(.int 2)] below meth c s₁ [] 0 0 := Stand.of_body Bd
  have e0 : s₁.heap = h0 := by rw [← hh, Bd.state]; rfl
  have N0 := Fr.nil n0
  have pre0 := own_pre (p := p) (e := e) (below := below) (s₁ := s₁) (ef44n2 m )
  obtain ⟨fsZ, hrZ, hrun, hended, hW, hsame⟩ := X0.leave (v := some (.int 4)) (fun h => by rw [Bd.returns] at h; cases h)
  refine ⟨_, _, pre0 _ ?_, hrun, hended, _, _, rfl, ?_, ⟨_, rfl⟩, hW, hsame.mono (by decide) (by decide)⟩
  · show Steps _ _ _ (s₁.setTop (mkF m 0 #[oi 2] [])) _
    refine XS.iloadN X0.here hx rfl (hb hby d44_0) rfl  ?_
    refine XS.ifYes X0.here hx rfl (pc0 := 1) (pc' := 12) rfl (hb hby d44_1) rfl ((if0 _ _).trans (flt (by decide)).2.1) (by decide) (by decide) ?_
    refine XS.iloadN X0.here hx rfl (hb hby d44_12) rfl  ?_
    show Steps _ _ _ (s₁.setTop (mkF m 13 #[oi 2] [(.int 2)])) _
    refine X0.ldcInt hx hown (mvT hZ (ow hw 224 rfl)) (g := (mkF m 13 #[oi 2] [(.int 2)])) rfl (hb hby d44_13) _ ?_
    refine XS.icmpYes X0.here hx rfl (pc0 := 15) (pc' := 55) rfl (hb hby d44_15) rfl (tlt (by decide)).1 (by decide) (by decide) ?_
    refine XS.iloadN X0.here hx rfl (hb hby d44_55) rfl  ?_
    refine XS.iconst X0.here hx rfl (hb hby d44_56) ?_
    refine XS.ishl X0.here hx rfl (hb hby d44_57) rfl ?_
    show Steps _ _ _ (s₁.setTop (mkF m 58 #[oi 2] [(.int ((2 : Int32) <<< ((1 : Int32) &&& 31)))])) _
    rw [show ((2 : Int32) <<< ((1 : Int32) &&& 31)) = (4 : Int32) from by decide]
    show Steps _ _ _ (s₁.setTop (mkF m 58 #[oi 2] [(.int 4)])) _
    exact retI X0 hx Bd.returns (hb hby d44_58) hrZ
  · show Q44n2 Z  h0 n0 _ s₁.heap _
    rw [e0]
    exact ⟨rfl, N0, rfl⟩
theorem d43_0 : decode zc19 0 = .ok (.iload_n 0, 1) := by decide +kernel
theorem d43_1 : decode zc19 1 = .ok (.invokestatic 11, 3) := by decide +kernel
theorem pd14 : parseMethodDescriptor "(I)I" = some ⟨[.int], some .int⟩ := by decide +kernel
theorem d43_4 : decode zc19 4 = .ok (.newarray .byte, 2) := by decide +kernel
theorem d43_6 : decode zc19 6 = .ok (.areturn, 1) := by decide +kernel
theorem ef43n2 (m : MethodId)  : entryFrame m #[(.int 2)] 1 = mkF m 0 #[oi 2] [] := by first | (simp [entryFrame, mkF, argsToLocals, Value.category]; done) | rfl
def Q43n2 (Z : State)  (h0 : Heap) (n0 : Nat) (v : Option Value) (h : Heap) (L : List Loc) : Prop := ∃ (vb : Addr) (kb : ClassId), v = some (.ref vb) ∧ Fr n0 L ∧ Keep h0 h [] ∧ n0 ≤ vb ∧ h0.size ≤ vb ∧ Arv Z h vb kb .byte (4 : Int32) [] (.int 0)
theorem rm43n2 (l : Launch) (Z : State) (a0 : Array Value) (hw : ∀ d ∈ tables_1, d.before a0 Z = true) (ws : List Jvm.Cond)  (h0 : Heap) (n0 : Nat) (Z0 : n0 ≤ h0.size) :
    MetFree l oM19 (head1 (Jvm.Cond.code oM19 zc19 1 (some (.array .byte)) :: ws) oR10) (fun a U => a = #[(.int 2)] ∧ Z.Warmed39 U.vm ∧ U.heap = h0) (fun _ _ _ _ _ => True) (fun _ U o U' => ∃ v L, o = .returned v ∧ Q43n2 Z  h0 n0 v U'.heap L ∧ FrameEnd U o U' L oR10.cells oR10.slots) := by
  refine MetFree.of_bodySF (plainFor_of_name pn1) hisR ?_
  intro p e s m args below meth c s₁ Bd hml0 hP hK
  obtain ⟨rfl, hZ, hh⟩ := hP
  have hx := Bd.exec
  have hby := Bd.bytes
  have hml : c.maxLocals = 1 := hml0
  have hown : s.vm.findClass o6 = some m.cls := findClass_of_methodNamed Bd.named
  have X0 : Stand p l e oR10 s m #[(.int 2)] below meth c s₁ [] 0 0 := Stand.of_body Bd
  have e0 : s₁.heap = h0 := by rw [← hh, Bd.state]; rfl
  have N0 := Fr.nil n0
  have pre0 := own_pre (p := p) (e := e) (below := below) (s₁ := s₁) (ef43n2 m )
  obtain ⟨_, _, ⟨T1, L1, k1, n1⟩, -, X1, ⟨Lc1, hQ1, l1, y1, z1⟩, st1⟩ := Jvm.LawKit.callS X0 hx (y := oM18) hown (mvT hZ (ow hw 221 rfl)) (mvT hZ (ow hw 222 rfl)) (mvT hZ (ow hw 37 rfl)) (mvT hZ (ow hw 223 rfl)) (by decide) (backOf (W := 0) (rm44n2 l Z a0 hw []  h0 n0 Z0 ) hZ (ow hw 223 rfl) (ow hw 37 rfl) (by decide) (by decide)) (g := (mkF m 1 #[oi 2] [(.int 2)])) rfl (by rw [hml]; rfl) (argsL := [(.int 2)]) (rest := []) (lenOf pd14 rfl) rfl (Nat.le_of_eq rfl) (hb hby d43_1) (fun _ _ => ⟨rfl, e0, (by decide : 0 + 0 ≤ _), (by decide : 0 + 0 ≤ _)⟩)
  dsimp only [Pt.U, Pt.locs, Pt.cells, Pt.slots] at X1 l1 y1 z1 st1 hQ1
  subst l1 y1 z1
  obtain ⟨rfl, N1q, e1⟩ := hQ1
  have N1 := Fr.app N0 N1q
  obtain ⟨T2, h2, k2, X2, e2, E2, A2, st2⟩ := newP X1 hx hZ (ow hw 15 rfl) e1 (g := (mkF m 4 #[oi 2] [(.int 4)])) rfl (hb hby d43_4) rfl (by decide) (cap := 4) (by decide) (by decide) (by decide) (by decide)
  obtain ⟨b2, g2⟩ : ∃ z, z = h0.size := ⟨_, rfl⟩
  rw [← g2] at A2 st2
  have gn_b2 : n0 ≤ b2 := Nat.le_trans Z0 (Nat.le_of_eq g2.symm)
  have sz_b2 : h0.size ≤ b2 := Nat.le_trans (Keep.refl h0 []).1 (Nat.le_of_eq g2.symm)
  have Z3 : n0 ≤ h2.size := Nat.le_trans Z0 E2.1
  have K4 : Keep h0 h2 [] := (Keep.refl h0 []).ext E2
  have V2 : Arv Z h2 b2 k2 .byte (4 : Int32) [] (.int 0) := (Arv.new A2 (by decide)).pad (pad_rep [] (.int 0) 0)
  obtain ⟨fsZ, hrZ, hrun, hended, hW, hsame⟩ := X2.leave (v := some (.ref b2)) (fun h => by rw [Bd.returns] at h; cases h)
  refine ⟨_, _, pre0 _ ?_, hrun, hended, _, _, rfl, ?_, ⟨_, rfl⟩, hW, hsame.mono (by decide) (by decide)⟩
  · show Steps _ _ _ (s₁.setTop (mkF m 0 #[oi 2] [])) _
    refine XS.iloadN X0.here hx rfl (hb hby d43_0) rfl  ?_
    refine st1 _ ?_
    refine st2 _ ?_
    show Steps _ _ _ (T2.setTop (mkF m 6 #[oi 2] [(.ref b2)])) _
    jvm_step X2.here [X2.here.top, hx, (hb hby d43_6), X2.method', Bd.returns, Value.isRef, FieldType.isReference]
    first | (intro acts; rw [hrZ _ acts rfl rfl rfl]) | rw [hrZ _ _ rfl rfl rfl]
    exact Steps.refl _
  · show Q43n2 Z  h0 n0 _ T2.heap _
    rw [e2]
    exact ⟨b2, k2, rfl, N1, K4, gn_b2, sz_b2, V2⟩
theorem ef44n16 (m : MethodId)  : entryFrame m #[(.int 16)] 1 = mkF m 0 #[oi 16] [] := by first | (simp [entryFrame, mkF, argsToLocals, Value.category]; done) | rfl
def Q44n16 (Z : State)  (h0 : Heap) (n0 : Nat) (v : Option Value) (h : Heap) (L : List Loc) : Prop := v = some (.int 32) ∧ Fr n0 L ∧ h = h0
theorem rm44n16 (l : Launch) (Z : State) (a0 : Array Value) (hw : ∀ d ∈ tables_1, d.before a0 Z = true) (ws : List Jvm.Cond)  (h0 : Heap) (n0 : Nat) (Z0 : n0 ≤ h0.size) :
    MetFree l oM18 (head1 (Jvm.Cond.code oM18 zc18 1 (some .int) :: ws) oR0) (fun a U => a = #[(.int 16)] ∧ Z.Warmed39 U.vm ∧ U.heap = h0) (fun _ _ _ _ _ => True) (fun _ U o U' => ∃ v L, o = .returned v ∧ Q44n16 Z  h0 n0 v U'.heap L ∧ FrameEnd U o U' L oR0.cells oR0.slots) := by
  refine MetFree.of_bodySF (plainFor_of_name pn1) hisR ?_
  intro p e s m args below meth c s₁ Bd hml0 hP hK
  obtain ⟨rfl, hZ, hh⟩ := hP
  have hx := Bd.exec
  have hby := Bd.bytes
  have hml : c.maxLocals = 1 := hml0
  have hown : s.vm.findClass o6 = some m.cls := findClass_of_methodNamed Bd.named
  have X0 : Stand p l e oR0 s m #[(.int 16)] below meth c s₁ [] 0 0 := Stand.of_body Bd
  have e0 : s₁.heap = h0 := by rw [← hh, Bd.state]; rfl
  have N0 := Fr.nil n0
  have pre0 := own_pre (p := p) (e := e) (below := below) (s₁ := s₁) (ef44n16 m )
  obtain ⟨fsZ, hrZ, hrun, hended, hW, hsame⟩ := X0.leave (v := some (.int 32)) (fun h => by rw [Bd.returns] at h; cases h)
  refine ⟨_, _, pre0 _ ?_, hrun, hended, _, _, rfl, ?_, ⟨_, rfl⟩, hW, hsame.mono (by decide) (by decide)⟩
  · show Steps _ _ _ (s₁.setTop (mkF m 0 #[oi 16] [])) _
    refine XS.iloadN X0.here hx rfl (hb hby d44_0) rfl  ?_
    refine XS.ifYes X0.here hx rfl (pc0 := 1) (pc' := 12) rfl (hb hby d44_1) rfl ((if0 _ _).trans (flt (by decide)).2.1) (by decide) (by decide) ?_
    refine XS.iloadN X0.here hx rfl (hb hby d44_12) rfl  ?_
    show Steps _ _ _ (s₁.setTop (mkF m 13 #[oi 16] [(.int 16)])) _
    refine X0.ldcInt hx hown (mvT hZ (ow hw 224 rfl)) (g := (mkF m 13 #[oi 16] [(.int 16)])) rfl (hb hby d44_13) _ ?_
    refine XS.icmpYes X0.here hx rfl (pc0 := 15) (pc' := 55) rfl (hb hby d44_15) rfl (tlt (by decide)).1 (by decide) (by decide) ?_
    refine XS.iloadN X0.here hx rfl (hb hby d44_55) rfl  ?_
    refine XS.iconst X0.here hx rfl (hb hby d44_56) ?_
    refine XS.ishl X0.here hx rfl (hb hby d44_57) rfl ?_
    show Steps _ _ _ (s₁.setTop (mkF m 58 #[oi 16] [(.int ((16 : Int32) <<< ((1 : Int32) &&& 31)))])) _
    rw [show ((16 : Int32) <<< ((1 : Int32) &&& 31)) = (32 : Int32) from by decide]
    show Steps _ _ _ (s₁.setTop (mkF m 58 #[oi 16] [(.int 32)])) _
    exact retI X0 hx Bd.returns (hb hby d44_58) hrZ
  · show Q44n16 Z  h0 n0 _ s₁.heap _
    rw [e0]
    exact ⟨rfl, N0, rfl⟩
theorem ef43n16 (m : MethodId)  : entryFrame m #[(.int 16)] 1 = mkF m 0 #[oi 16] [] := by first | (simp [entryFrame, mkF, argsToLocals, Value.category]; done) | rfl
def Q43n16 (Z : State)  (h0 : Heap) (n0 : Nat) (v : Option Value) (h : Heap) (L : List Loc) : Prop := ∃ (vb : Addr) (kb : ClassId), v = some (.ref vb) ∧ Fr n0 L ∧ Keep h0 h [] ∧ n0 ≤ vb ∧ h0.size ≤ vb ∧ Arv Z h vb kb .byte (32 : Int32) [] (.int 0)
theorem rm43n16 (l : Launch) (Z : State) (a0 : Array Value) (hw : ∀ d ∈ tables_1, d.before a0 Z = true) (ws : List Jvm.Cond)  (h0 : Heap) (n0 : Nat) (Z0 : n0 ≤ h0.size) :
    MetFree l oM19 (head1 (Jvm.Cond.code oM19 zc19 1 (some (.array .byte)) :: ws) oR11) (fun a U => a = #[(.int 16)] ∧ Z.Warmed39 U.vm ∧ U.heap = h0) (fun _ _ _ _ _ => True) (fun _ U o U' => ∃ v L, o = .returned v ∧ Q43n16 Z  h0 n0 v U'.heap L ∧ FrameEnd U o U' L oR11.cells oR11.slots) := by
  refine MetFree.of_bodySF (plainFor_of_name pn1) hisR ?_
  intro p e s m args below meth c s₁ Bd hml0 hP hK
  obtain ⟨rfl, hZ, hh⟩ := hP
  have hx := Bd.exec
  have hby := Bd.bytes
  have hml : c.maxLocals = 1 := hml0
  have hown : s.vm.findClass o6 = some m.cls := findClass_of_methodNamed Bd.named
  have X0 : Stand p l e oR11 s m #[(.int 16)] below meth c s₁ [] 0 0 := Stand.of_body Bd
  have e0 : s₁.heap = h0 := by rw [← hh, Bd.state]; rfl
  have N0 := Fr.nil n0
  have pre0 := own_pre (p := p) (e := e) (below := below) (s₁ := s₁) (ef43n16 m )
  obtain ⟨_, _, ⟨T1, L1, k1, n1⟩, -, X1, ⟨Lc1, hQ1, l1, y1, z1⟩, st1⟩ := Jvm.LawKit.callS X0 hx (y := oM18) hown (mvT hZ (ow hw 221 rfl)) (mvT hZ (ow hw 222 rfl)) (mvT hZ (ow hw 37 rfl)) (mvT hZ (ow hw 223 rfl)) (by decide) (backOf (W := 0) (rm44n16 l Z a0 hw []  h0 n0 Z0 ) hZ (ow hw 223 rfl) (ow hw 37 rfl) (by decide) (by decide)) (g := (mkF m 1 #[oi 16] [(.int 16)])) rfl (by rw [hml]; rfl) (argsL := [(.int 16)]) (rest := []) (lenOf pd14 rfl) rfl (Nat.le_of_eq rfl) (hb hby d43_1) (fun _ _ => ⟨rfl, e0, (by decide : 0 + 0 ≤ _), (by decide : 0 + 0 ≤ _)⟩)
  dsimp only [Pt.U, Pt.locs, Pt.cells, Pt.slots] at X1 l1 y1 z1 st1 hQ1
  subst l1 y1 z1
  obtain ⟨rfl, N1q, e1⟩ := hQ1
  have N1 := Fr.app N0 N1q
  obtain ⟨T2, h2, k2, X2, e2, E2, A2, st2⟩ := newP X1 hx hZ (ow hw 15 rfl) e1 (g := (mkF m 4 #[oi 16] [(.int 32)])) rfl (hb hby d43_4) rfl (by decide) (cap := 32) (by decide) (by decide) (by decide) (by decide)
  obtain ⟨b2, g2⟩ : ∃ z, z = h0.size := ⟨_, rfl⟩
  rw [← g2] at A2 st2
  have gn_b2 : n0 ≤ b2 := Nat.le_trans Z0 (Nat.le_of_eq g2.symm)
  have sz_b2 : h0.size ≤ b2 := Nat.le_trans (Keep.refl h0 []).1 (Nat.le_of_eq g2.symm)
  have Z3 : n0 ≤ h2.size := Nat.le_trans Z0 E2.1
  have K4 : Keep h0 h2 [] := (Keep.refl h0 []).ext E2
  have V2 : Arv Z h2 b2 k2 .byte (32 : Int32) [] (.int 0) := (Arv.new A2 (by decide)).pad (pad_rep [] (.int 0) 0)
  obtain ⟨fsZ, hrZ, hrun, hended, hW, hsame⟩ := X2.leave (v := some (.ref b2)) (fun h => by rw [Bd.returns] at h; cases h)
  refine ⟨_, _, pre0 _ ?_, hrun, hended, _, _, rfl, ?_, ⟨_, rfl⟩, hW, hsame.mono (by decide) (by decide)⟩
  · show Steps _ _ _ (s₁.setTop (mkF m 0 #[oi 16] [])) _
    refine XS.iloadN X0.here hx rfl (hb hby d43_0) rfl  ?_
    refine st1 _ ?_
    refine st2 _ ?_
    show Steps _ _ _ (T2.setTop (mkF m 6 #[oi 16] [(.ref b2)])) _
    jvm_step X2.here [X2.here.top, hx, (hb hby d43_6), X2.method', Bd.returns, Value.isRef, FieldType.isReference]
    first | (intro acts; rw [hrZ _ acts rfl rfl rfl]) | rw [hrZ _ _ rfl rfl rfl]
    exact Steps.refl _
  · show Q43n16 Z  h0 n0 _ T2.heap _
    rw [e2]
    exact ⟨b2, k2, rfl, N1, K4, gn_b2, sz_b2, V2⟩
theorem d42_0 : decode zc20 0 = .ok (.iload_n 2, 1) := by decide +kernel
theorem d42_1 : decode zc20 1 = .ok (.invokestatic 107, 3) := by decide +kernel
theorem pd15 : parseMethodDescriptor "(I)[B" = some ⟨[.int], some (.array .byte)⟩ := by decide +kernel
theorem d42_4 : decode zc20 4 = .ok (.astore_n 3, 1) := by decide +kernel
theorem d42_5 : decode zc20 5 = .ok (.iconst 0, 1) := by decide +kernel
theorem d42_6 : decode zc20 6 = .ok (.istore 4, 2) := by decide +kernel
theorem d42_8 : decode zc20 8 = .ok (.iload 4, 2) := by decide +kernel
theorem d42_10 : decode zc20 10 = .ok (.iload_n 2, 1) := by decide +kernel
theorem d42_11 : decode zc20 11 = .ok (.if_icmp .ge 21, 3) := by decide +kernel
theorem d42_14 : decode zc20 14 = .ok (.aload_n 3, 1) := by decide +kernel
theorem d42_15 : decode zc20 15 = .ok (.iload 4, 2) := by decide +kernel
theorem d42_17 : decode zc20 17 = .ok (.aload_n 0, 1) := by decide +kernel
theorem d42_18 : decode zc20 18 = .ok (.iload_n 1, 1) := by decide +kernel
theorem d42_19 : decode zc20 19 = .ok (.caload, 1) := by decide +kernel
theorem d42_20 : decode zc20 20 = .ok (.invokestatic 111, 3) := by decide +kernel
theorem d42_23 : decode zc20 23 = .ok (.iinc 1 1, 3) := by decide +kernel
theorem d42_26 : decode zc20 26 = .ok (.iinc 4 1, 3) := by decide +kernel
theorem d42_29 : decode zc20 29 = .ok (.goto (-21), 3) := by decide +kernel
theorem d42_32 : decode zc20 32 = .ok (.aload_n 3, 1) := by decide +kernel
theorem d42_33 : decode zc20 33 = .ok (.areturn, 1) := by decide +kernel
theorem ef42 (m : MethodId) (ca : Addr) : entryFrame m #[(.ref ca), (.int 0), (.int 2)] 5 = mkF m 0 #[oa ca, oi 0, oi 2, .unset, .unset] [] := by first | (simp [entryFrame, mkF, argsToLocals, Value.category]; done) | rfl
def Q42 (Z : State) (ca : Addr) (kq : ClassId) (u0 : Int32) (u1 : Int32) (h0 : Heap) (n0 : Nat) (v : Option Value) (h : Heap) (L : List Loc) : Prop := ∃ (vb : Addr) (kb : ClassId), v = some (.ref vb) ∧ Fr n0 L ∧ Keep h0 h [] ∧ n0 ≤ vb ∧ h0.size ≤ vb ∧ Arv Z h vb kb .byte (4 : Int32) (own_ub [u0, u1]) (.int 0)
theorem rm42 (l : Launch) (Z : State) (a0 : Array Value) (hw : ∀ d ∈ tables_1, d.before a0 Z = true) (ws : List Jvm.Cond) (ca : Addr) (kq : ClassId) (u0 : Int32) (u1 : Int32) (h0 : Heap) (n0 : Nat) (Z0 : n0 ≤ h0.size) (Vc : Arv Z h0 ca kq .char (2 : Int32) [(.int u0), (.int u1)] (.int 0)) (Ox : Old Z n0 h0) (Ua : Sta Z Z.heap o6 "$assertionsDisabled" "Z" (.int 1)) (Uh : Sta Z Z.heap o6 "HI_BYTE_SHIFT" "I" (.int 0)) (Ul : Sta Z Z.heap o6 "LO_BYTE_SHIFT" "I" (.int 8)) :
    MetFree l oM20 (head1 (Jvm.Cond.code oM20 zc20 5 (some (.array .byte)) :: ws) oR12) (fun a U => a = #[(.ref ca), (.int 0), (.int 2)] ∧ Z.Warmed39 U.vm ∧ U.heap = h0) (fun _ _ _ _ _ => True) (fun _ U o U' => ∃ v L, o = .returned v ∧ Q42 Z ca kq u0 u1 h0 n0 v U'.heap L ∧ FrameEnd U o U' L oR12.cells oR12.slots) := by
  refine MetFree.of_bodySF (plainFor_of_name pn1) hisR ?_
  intro p e s m args below meth c s₁ Bd hml0 hP hK
  obtain ⟨rfl, hZ, hh⟩ := hP
  have hx := Bd.exec
  have hby := Bd.bytes
  have hml : c.maxLocals = 5 := hml0
  have hown : s.vm.findClass o6 = some m.cls := findClass_of_methodNamed Bd.named
  have X0 : Stand p l e oR12 s m #[(.ref ca), (.int 0), (.int 2)] below meth c s₁ [] 0 0 := Stand.of_body Bd
  have e0 : s₁.heap = h0 := by rw [← hh, Bd.state]; rfl
  have N0 := Fr.nil n0
  have pre0 := own_pre (p := p) (e := e) (below := below) (s₁ := s₁) (ef42 m ca)
  obtain ⟨_, _, ⟨T1, L1, k1, n1⟩, -, X1, ⟨Lc1, hQ1, l1, y1, z1⟩, st1⟩ := Jvm.LawKit.callS X0 hx (y := oM19) hown (mvT hZ (ow hw 218 rfl)) (mvT hZ (ow hw 219 rfl)) (mvT hZ (ow hw 37 rfl)) (mvT hZ (ow hw 220 rfl)) (by decide) (backOf (W := 0) (rm43n2 l Z a0 hw []  h0 n0 Z0 ) hZ (ow hw 220 rfl) (ow hw 37 rfl) (by decide) (by decide)) (g := (mkF m 1 #[oa ca, oi 0, oi 2, .unset, .unset] [(.int 2)])) rfl (by rw [hml]; rfl) (argsL := [(.int 2)]) (rest := []) (lenOf pd15 rfl) rfl (Nat.le_of_eq rfl) (hb hby d42_1) (fun _ _ => ⟨rfl, e0, (by decide : 0 + 1 ≤ _), (by decide : 0 + 4 ≤ _)⟩)
  dsimp only [Pt.U, Pt.locs, Pt.cells, Pt.slots] at X1 l1 y1 z1 st1 hQ1
  subst l1 y1 z1
  obtain ⟨vb_2, kb_3, rfl, N1q, K1, u1_0, u1_1, f1_0⟩ := hQ1
  have N1 := Fr.app N0 N1q
  have Z4 : n0 ≤ T1.heap.size := Nat.le_trans Z0 K1.1
  have K5 : Keep h0 T1.heap [] := (Keep.refl h0 []).trans K1 all0
  have ne6 := own_nc Vc.lt u1_1
  have sz_vb_2 : h0.size ≤ vb_2 := Nat.le_trans (Keep.refl h0 []).1 u1_1
  have fa7 := (Vc.keep K1 nin0)
  obtain ⟨c8, Arc8, qc8, Sc8, Mc8, Hc8, Gc8⟩ := id fa7
  have hinc8 : ¬ ((0 : Int32) < 0 ∨ c8.slots.size ≤ ((0 : Int32)).toNatClampNeg) := inb_of Sc8 ⟨by decide, by decide⟩
  have hatc8 : c8.slots[((0 : Int32)).toNatClampNeg]? = some (.int u0) := Hc8.at hinc8 rfl
  have fa9 := (Ox.keep K1 all0)
  obtain ⟨_, _, ⟨T10, L10, k10, n10⟩, -, X10, ⟨Lc10, hQ10, l10, y10, z10⟩, st10⟩ := Jvm.LawKit.callS X1 hx (y := oM8) hown (mvT hZ (ow hw 209 rfl)) (mvT hZ (ow hw 210 rfl)) (mvT hZ (ow hw 37 rfl)) (mvT hZ (ow hw 211 rfl)) (by decide) (backOf (W := 0) (rm41 l Z a0 hw [] vb_2 (0 : Int32) u0 kb_3 (4 : Int32) [] T1.heap n0 Z4 f1_0 u1_0 fa9 Ua Uh Ul (by first | assumption | decide | omega) (by first | assumption | decide | omega) rfl) hZ (ow hw 211 rfl) (ow hw 37 rfl) (by decide) (by decide)) (g := (mkF m 20 #[oa ca, oi 0, oi 2, oa vb_2, oi 0] [(.int u0), (.int 0), (.ref vb_2)])) rfl (by rw [hml]; rfl) (argsL := [(.ref vb_2), (.int 0), (.int u0)]) (rest := []) (lenOf pd13 rfl) rfl (Nat.le_of_eq rfl) (hb hby d42_20) (fun _ _ => ⟨rfl, rfl, (by decide : 1 + 0 ≤ _), (by decide : 4 + 0 ≤ _)⟩)
  dsimp only [Pt.U, Pt.locs, Pt.cells, Pt.slots] at X10 l10 y10 z10 st10 hQ10
  subst l10 y10 z10
  obtain ⟨rfl, N10q, K10, f10_0⟩ := hQ10
  have N10 := Fr.app N1 N10q
  have Z11 : n0 ≤ T10.heap.size := Nat.le_trans Z4 K10.1
  have K12 : Keep h0 T10.heap [] := K5.trans K10 (allS (P := fun x => x ∈ _ ∨ _) (Or.inr sz_vb_2) all0)
  have fa13 := (fa7.keep K10 (ninS ne6 nin0))
  obtain ⟨c14, Arc14, qc14, Sc14, Mc14, Hc14, Gc14⟩ := id fa13
  have hinc14 : ¬ ((1 : Int32) < 0 ∨ c14.slots.size ≤ ((1 : Int32)).toNatClampNeg) := inb_of Sc14 ⟨by decide, by decide⟩
  have hatc14 : c14.slots[((1 : Int32)).toNatClampNeg]? = some (.int u1) := Hc14.at hinc14 rfl
  have fa15 := (fa9.keep K10 (allS (P := fun x => n0 ≤ x) u1_0 all0))
  obtain ⟨_, _, ⟨T16, L16, k16, n16⟩, -, X16, ⟨Lc16, hQ16, l16, y16, z16⟩, st16⟩ := Jvm.LawKit.callS X10 hx (y := oM8) hown (mvT hZ (ow hw 209 rfl)) (mvT hZ (ow hw 210 rfl)) (mvT hZ (ow hw 37 rfl)) (mvT hZ (ow hw 211 rfl)) (by decide) (backOf (W := 0) (rm41 l Z a0 hw [] vb_2 (1 : Int32) u1 kb_3 (4 : Int32) (([] ++ [.int (u0.toInt8.toInt32)]) ++ [.int (own_hi u0)]) T10.heap n0 Z11 f10_0 u1_0 fa15 Ua Uh Ul (by first | assumption | decide | omega) (by first | assumption | decide | omega) rfl) hZ (ow hw 211 rfl) (ow hw 37 rfl) (by decide) (by decide)) (g := (mkF m 20 #[oa ca, oi 1, oi 2, oa vb_2, oi 1] [(.int u1), (.int 1), (.ref vb_2)])) rfl (by rw [hml]; rfl) (argsL := [(.ref vb_2), (.int 1), (.int u1)]) (rest := []) (lenOf pd13 rfl) rfl (Nat.le_of_eq rfl) (hb hby d42_20) (fun _ _ => ⟨rfl, rfl, (by decide : 1 + 0 ≤ _), (by decide : 4 + 0 ≤ _)⟩)
  dsimp only [Pt.U, Pt.locs, Pt.cells, Pt.slots] at X16 l16 y16 z16 st16 hQ16
  subst l16 y16 z16
  obtain ⟨rfl, N16q, K16, f16_0⟩ := hQ16
  have N16 := Fr.app N10 N16q
  have Z17 : n0 ≤ T16.heap.size := Nat.le_trans Z11 K16.1
  have K18 : Keep h0 T16.heap [] := K12.trans K16 (allS (P := fun x => x ∈ _ ∨ _) (Or.inr sz_vb_2) all0)
  obtain ⟨fsZ, hrZ, hrun, hended, hW, hsame⟩ := X16.leave (v := some (.ref vb_2)) (fun h => by rw [Bd.returns] at h; cases h)
  refine ⟨_, _, pre0 _ ?_, hrun, hended, _, _, rfl, ?_, ⟨_, rfl⟩, hW, hsame.mono (by decide) (by decide)⟩
  · show Steps _ _ _ (s₁.setTop (mkF m 0 #[oa ca, oi 0, oi 2, .unset, .unset] [])) _
    refine XS.iloadN X0.here hx rfl (hb hby d42_0) rfl  ?_
    refine st1 _ ?_
    refine XS.astoreN X1.here hx rfl (hb hby d42_4) rfl rfl (l' := #[oa ca, oi 0, oi 2, oa vb_2, .unset]) rfl ?_
    refine XS.iconst X1.here hx rfl (hb hby d42_5) ?_
    refine XS.istore X1.here hx rfl (hb hby d42_6) rfl (l' := #[oa ca, oi 0, oi 2, oa vb_2, oi 0]) rfl ?_
    refine XS.iload X1.here hx rfl (hb hby d42_8) rfl  ?_
    refine XS.iloadN X1.here hx rfl (hb hby d42_10) rfl  ?_
    refine XS.icmpNo X1.here hx rfl (hb hby d42_11) rfl (tlt (by decide)).2.1 ?_
    show Steps _ _ _ (T1.setTop (mkF m 14 #[oa ca, oi 0, oi 2, oa vb_2, oi 0] [])) _
    refine XS.aloadN X1.here hx rfl (hb hby d42_14) rfl rfl ?_
    refine XS.iload X1.here hx rfl (hb hby d42_15) rfl  ?_
    refine XS.aloadN X1.here hx rfl (hb hby d42_17) rfl rfl ?_
    refine XS.iloadN X1.here hx rfl (hb hby d42_18) rfl  ?_
    show Steps _ _ _ (T1.setTop (mkF m 19 #[oa ca, oi 0, oi 2, oa vb_2, oi 0] [(.int 0), (.ref ca), (.int 0), (.ref vb_2)])) _
    refine X1.caload hx (j := (0 : Int32)) (v := (.int u0)) (by exact Arc8.1) (State.isArrayOf_alike hZ.alike Arc8.2.1) Arc8.2.2 hinc8 hatc8 (g := (mkF m 19 #[oa ca, oi 0, oi 2, oa vb_2, oi 0] [(.int 0), (.ref ca), (.int 0), (.ref vb_2)])) rfl rfl (hb hby d42_19) _ ?_
    refine st10 _ ?_
    refine XS.iinc X10.here hx rfl (hb hby d42_23) rfl (l' := #[oa ca, oi ((0 : Int32) + (1 : Int32)), oi 2, oa vb_2, oi 0]) rfl ?_
    show Steps _ _ _ (T10.setTop (mkF m 26 #[oa ca, oi ((0 : Int32) + (1 : Int32)), oi 2, oa vb_2, oi 0] [])) _
    rw [show ((0 : Int32) + (1 : Int32)) = (1 : Int32) from by decide]
    show Steps _ _ _ (T10.setTop (mkF m 26 #[oa ca, oi 1, oi 2, oa vb_2, oi 0] [])) _
    refine XS.iinc X10.here hx rfl (hb hby d42_26) rfl (l' := #[oa ca, oi 1, oi 2, oa vb_2, oi ((0 : Int32) + (1 : Int32))]) rfl ?_
    show Steps _ _ _ (T10.setTop (mkF m 29 #[oa ca, oi 1, oi 2, oa vb_2, oi ((0 : Int32) + (1 : Int32))] [])) _
    rw [show ((0 : Int32) + (1 : Int32)) = (1 : Int32) from by decide]
    show Steps _ _ _ (T10.setTop (mkF m 29 #[oa ca, oi 1, oi 2, oa vb_2, oi 1] [])) _
    refine XS.goto X10.here hx rfl (pc0 := 29) (pc' := 8) rfl (hb hby d42_29) (by decide) (by decide) ?_
    refine XS.iload X10.here hx rfl (hb hby d42_8) rfl  ?_
    refine XS.iloadN X10.here hx rfl (hb hby d42_10) rfl  ?_
    refine XS.icmpNo X10.here hx rfl (hb hby d42_11) rfl (tlt (by decide)).2.1 ?_
    refine XS.aloadN X10.here hx rfl (hb hby d42_14) rfl rfl ?_
    refine XS.iload X10.here hx rfl (hb hby d42_15) rfl  ?_
    refine XS.aloadN X10.here hx rfl (hb hby d42_17) rfl rfl ?_
    refine XS.iloadN X10.here hx rfl (hb hby d42_18) rfl  ?_
    show Steps _ _ _ (T10.setTop (mkF m 19 #[oa ca, oi 1, oi 2, oa vb_2, oi 1] [(.int 1), (.ref ca), (.int 1), (.ref vb_2)])) _
    refine X10.caload hx (j := (1 : Int32)) (v := (.int u1)) (by exact Arc14.1) (State.isArrayOf_alike hZ.alike Arc14.2.1) Arc14.2.2 hinc14 hatc14 (g := (mkF m 19 #[oa ca, oi 1, oi 2, oa vb_2, oi 1] [(.int 1), (.ref ca), (.int 1), (.ref vb_2)])) rfl rfl (hb hby d42_19) _ ?_
    refine st16 _ ?_
    refine XS.iinc X16.here hx rfl (hb hby d42_23) rfl (l' := #[oa ca, oi ((1 : Int32) + (1 : Int32)), oi 2, oa vb_2, oi 1]) rfl ?_
    show Steps _ _ _ (T16.setTop (mkF m 26 #[oa ca, oi ((1 : Int32) + (1 : Int32)), oi 2, oa vb_2, oi 1] [])) _
    rw [show ((1 : Int32) + (1 : Int32)) = (2 : Int32) from by decide]
    show Steps _ _ _ (T16.setTop (mkF m 26 #[oa ca, oi 2, oi 2, oa vb_2, oi 1] [])) _
    refine XS.iinc X16.here hx rfl (hb hby d42_26) rfl (l' := #[oa ca, oi 2, oi 2, oa vb_2, oi ((1 : Int32) + (1 : Int32))]) rfl ?_
    show Steps _ _ _ (T16.setTop (mkF m 29 #[oa ca, oi 2, oi 2, oa vb_2, oi ((1 : Int32) + (1 : Int32))] [])) _
    rw [show ((1 : Int32) + (1 : Int32)) = (2 : Int32) from by decide]
    show Steps _ _ _ (T16.setTop (mkF m 29 #[oa ca, oi 2, oi 2, oa vb_2, oi 2] [])) _
    refine XS.goto X16.here hx rfl (pc0 := 29) (pc' := 8) rfl (hb hby d42_29) (by decide) (by decide) ?_
    refine XS.iload X16.here hx rfl (hb hby d42_8) rfl  ?_
    refine XS.iloadN X16.here hx rfl (hb hby d42_10) rfl  ?_
    refine XS.icmpYes X16.here hx rfl (pc0 := 11) (pc' := 32) rfl (hb hby d42_11) rfl (flt (by decide)).2.1 (by decide) (by decide) ?_
    refine XS.aloadN X16.here hx rfl (hb hby d42_32) rfl rfl ?_
    show Steps _ _ _ (T16.setTop (mkF m 33 #[oa ca, oi 2, oi 2, oa vb_2, oi 2] [(.ref vb_2)])) _
    jvm_step X16.here [X16.here.top, hx, (hb hby d42_33), X16.method', Bd.returns, Value.isRef, FieldType.isReference]
    first | (intro acts; rw [hrZ _ acts rfl rfl rfl]) | rw [hrZ _ _ rfl rfl rfl]
    exact Steps.refl _
  · show Q42 Z ca kq u0 u1 h0 n0 _ T16.heap _
    exact ⟨vb_2, kb_3, rfl, N16, K18, u1_0, sz_vb_2, f16_0⟩
theorem d9_0 : decode zc21 0 = .ok (.iconst 0, 1) := by decide +kernel
theorem d9_1 : decode zc21 1 = .ok (.istore 5, 2) := by decide +kernel
theorem d9_3 : decode zc21 3 = .ok (.iload 5, 2) := by decide +kernel
theorem d9_5 : decode zc21 5 = .ok (.iload 4, 2) := by decide +kernel
theorem d9_7 : decode zc21 7 = .ok (.if_icmp .ge 37, 3) := by decide +kernel
theorem d9_10 : decode zc21 10 = .ok (.aload_n 0, 1) := by decide +kernel
theorem d9_11 : decode zc21 11 = .ok (.iload_n 1, 1) := by decide +kernel
theorem d9_12 : decode zc21 12 = .ok (.caload, 1) := by decide +kernel
theorem d9_13 : decode zc21 13 = .ok (.istore 6, 2) := by decide +kernel
theorem d9_15 : decode zc21 15 = .ok (.iload 6, 2) := by decide +kernel
theorem d9_17 : decode zc21 17 = .ok (.sipush 255, 3) := by decide +kernel
theorem d9_20 : decode zc21 20 = .ok (.if_icmp .le 6, 3) := by decide +kernel
theorem d9_23 : decode zc21 23 = .ok (.iload 5, 2) := by decide +kernel
theorem d9_25 : decode zc21 25 = .ok (.ireturn, 1) := by decide +kernel
theorem ef9a (m : MethodId) (ca : Addr) (va : Addr) : entryFrame m #[(.ref ca), (.int 0), (.ref va), (.int 0), (.int 2)] 7 = mkF m 0 #[oa ca, oi 0, oa va, oi 0, oi 2, .unset, .unset] [] := by first | (simp [entryFrame, mkF, argsToLocals, Value.category]; done) | rfl
def Q9a (Z : State) (ca : Addr) (va : Addr) (kq : ClassId) (kv : ClassId) (u0 : Int32) (u1 : Int32) (h0 : Heap) (n0 : Nat) (v : Option Value) (h : Heap) (L : List Loc) : Prop := v = some (.int 0) ∧ Fr n0 L ∧ Keep h0 h [va]
theorem rm9a (l : Launch) (Z : State) (a0 : Array Value) (hw : ∀ d ∈ tables_1, d.before a0 Z = true) (ws : List Jvm.Cond) (ca : Addr) (va : Addr) (kq : ClassId) (kv : ClassId) (u0 : Int32) (u1 : Int32) (h0 : Heap) (n0 : Nat) (Z0 : n0 ≤ h0.size) (Vc : Arv Z h0 ca kq .char (2 : Int32) [(.int u0), (.int u1)] (.int 0)) (Vx : Arv Z h0 va kv .byte (2 : Int32) [(.int 0), (.int 0)] (.int 0)) (nx : ca ≠ va) (gx : n0 ≤ va) (h0x : (255 : Int32) < u0) :
    MetFree l oM21 (head1 (Jvm.Cond.code oM21 zc21 7 (some .int) :: ws) oR0) (fun a U => a = #[(.ref ca), (.int 0), (.ref va), (.int 0), (.int 2)] ∧ Z.Warmed39 U.vm ∧ U.heap = h0) (fun _ _ _ _ _ => True) (fun _ U o U' => ∃ v L, o = .returned v ∧ Q9a Z ca va kq kv u0 u1 h0 n0 v U'.heap L ∧ FrameEnd U o U' L oR0.cells oR0.slots) := by
  refine MetFree.of_bodySF (plainFor_of_name pn1) hisR ?_
  intro p e s m args below meth c s₁ Bd hml0 hP hK
  obtain ⟨rfl, hZ, hh⟩ := hP
  have hx := Bd.exec
  have hby := Bd.bytes
  have hml : c.maxLocals = 7 := hml0
  have hown : s.vm.findClass o6 = some m.cls := findClass_of_methodNamed Bd.named
  have X0 : Stand p l e oR0 s m #[(.ref ca), (.int 0), (.ref va), (.int 0), (.int 2)] below meth c s₁ [] 0 0 := Stand.of_body Bd
  have e0 : s₁.heap = h0 := by rw [← hh, Bd.state]; rfl
  have N0 := Fr.nil n0
  have pre0 := own_pre (p := p) (e := e) (below := below) (s₁ := s₁) (ef9a m ca va)
  obtain ⟨c1, Arc1, qc1, Sc1, Mc1, Hc1, Gc1⟩ := id Vc
  have hinc1 : ¬ ((0 : Int32) < 0 ∨ c1.slots.size ≤ ((0 : Int32)).toNatClampNeg) := inb_of Sc1 ⟨by decide, by decide⟩
  have hatc1 : c1.slots[((0 : Int32)).toNatClampNeg]? = some (.int u0) := Hc1.at hinc1 rfl
  obtain ⟨fsZ, hrZ, hrun, hended, hW, hsame⟩ := X0.leave (v := some (.int 0)) (fun h => by rw [Bd.returns] at h; cases h)
  refine ⟨_, _, pre0 _ ?_, hrun, hended, _, _, rfl, ?_, ⟨_, rfl⟩, hW, hsame.mono (by decide) (by decide)⟩
  · show Steps _ _ _ (s₁.setTop (mkF m 0 #[oa ca, oi 0, oa va, oi 0, oi 2, .unset, .unset] [])) _
    refine XS.iconst X0.here hx rfl (hb hby d9_0) ?_
    refine XS.istore X0.here hx rfl (hb hby d9_1) rfl (l' := #[oa ca, oi 0, oa va, oi 0, oi 2, oi 0, .unset]) rfl ?_
    refine XS.iload X0.here hx rfl (hb hby d9_3) rfl  ?_
    refine XS.iload X0.here hx rfl (hb hby d9_5) rfl  ?_
    refine XS.icmpNo X0.here hx rfl (hb hby d9_7) rfl (tlt (by decide)).2.1 ?_
    refine XS.aloadN X0.here hx rfl (hb hby d9_10) rfl rfl ?_
    refine XS.iloadN X0.here hx rfl (hb hby d9_11) rfl  ?_
    show Steps _ _ _ (s₁.setTop (mkF m 12 #[oa ca, oi 0, oa va, oi 0, oi 2, oi 0, .unset] [(.int 0), (.ref ca)])) _
    refine X0.caload hx (j := (0 : Int32)) (v := (.int u0)) (by rw [e0]; exact Arc1.1) (State.isArrayOf_alike hZ.alike Arc1.2.1) Arc1.2.2 hinc1 hatc1 (g := (mkF m 12 #[oa ca, oi 0, oa va, oi 0, oi 2, oi 0, .unset] [(.int 0), (.ref ca)])) rfl rfl (hb hby d9_12) _ ?_
    refine XS.istore X0.here hx rfl (hb hby d9_13) rfl (l' := #[oa ca, oi 0, oa va, oi 0, oi 2, oi 0, oi u0]) rfl ?_
    refine XS.iload X0.here hx rfl (hb hby d9_15) rfl  ?_
    refine XS.sipush X0.here hx rfl (hb hby d9_17) ?_
    refine XS.icmpNo X0.here hx rfl (hb hby d9_20) rfl (tlt h0x).2.2.2 ?_
    refine XS.iload X0.here hx rfl (hb hby d9_23) rfl  ?_
    show Steps _ _ _ (s₁.setTop (mkF m 25 #[oa ca, oi 0, oa va, oi 0, oi 2, oi 0, oi u0] [(.int 0)])) _
    exact retI X0 hx Bd.returns (hb hby d9_25) hrZ
  · show Q9a Z ca va kq kv u0 u1 h0 n0 _ s₁.heap _
    rw [e0]
    exact ⟨rfl, N0, (Keep.refl h0 [va])⟩
theorem d9_26 : decode zc21 26 = .ok (.aload_n 2, 1) := by decide +kernel
theorem d9_27 : decode zc21 27 = .ok (.iload_n 3, 1) := by decide +kernel
theorem d9_28 : decode zc21 28 = .ok (.iload 6, 2) := by decide +kernel
theorem d9_30 : decode zc21 30 = .ok (.i2b, 1) := by decide +kernel
theorem d9_31 : decode zc21 31 = .ok (.bastore, 1) := by decide +kernel
theorem d9_32 : decode zc21 32 = .ok (.iinc 1 1, 3) := by decide +kernel
theorem d9_35 : decode zc21 35 = .ok (.iinc 3 1, 3) := by decide +kernel
theorem d9_38 : decode zc21 38 = .ok (.iinc 5 1, 3) := by decide +kernel
theorem d9_41 : decode zc21 41 = .ok (.goto (-38), 3) := by decide +kernel
theorem ef9b (m : MethodId) (ca : Addr) (va : Addr) : entryFrame m #[(.ref ca), (.int 0), (.ref va), (.int 0), (.int 2)] 7 = mkF m 0 #[oa ca, oi 0, oa va, oi 0, oi 2, .unset, .unset] [] := by first | (simp [entryFrame, mkF, argsToLocals, Value.category]; done) | rfl
def Q9b (Z : State) (ca : Addr) (va : Addr) (kq : ClassId) (kv : ClassId) (u0 : Int32) (u1 : Int32) (h0 : Heap) (n0 : Nat) (v : Option Value) (h : Heap) (L : List Loc) : Prop := v = some (.int 1) ∧ Fr n0 L ∧ Keep h0 h [va]
theorem rm9b (l : Launch) (Z : State) (a0 : Array Value) (hw : ∀ d ∈ tables_1, d.before a0 Z = true) (ws : List Jvm.Cond) (ca : Addr) (va : Addr) (kq : ClassId) (kv : ClassId) (u0 : Int32) (u1 : Int32) (h0 : Heap) (n0 : Nat) (Z0 : n0 ≤ h0.size) (Vc : Arv Z h0 ca kq .char (2 : Int32) [(.int u0), (.int u1)] (.int 0)) (Vx : Arv Z h0 va kv .byte (2 : Int32) [(.int 0), (.int 0)] (.int 0)) (nx : ca ≠ va) (gx : n0 ≤ va) (h0x : ¬ ((255 : Int32) < u0)) (h1x : (255 : Int32) < u1) :
    MetFree l oM21 (head1 (Jvm.Cond.code oM21 zc21 7 (some .int) :: ws) oR0) (fun a U => a = #[(.ref ca), (.int 0), (.ref va), (.int 0), (.int 2)] ∧ Z.Warmed39 U.vm ∧ U.heap = h0) (fun _ _ _ _ _ => True) (fun _ U o U' => ∃ v L, o = .returned v ∧ Q9b Z ca va kq kv u0 u1 h0 n0 v U'.heap L ∧ FrameEnd U o U' L oR0.cells oR0.slots) := by
  refine MetFree.of_bodySF (plainFor_of_name pn1) hisR ?_
  intro p e s m args below meth c s₁ Bd hml0 hP hK
  obtain ⟨rfl, hZ, hh⟩ := hP
  have hx := Bd.exec
  have hby := Bd.bytes
  have hml : c.maxLocals = 7 := hml0
  have hown : s.vm.findClass o6 = some m.cls := findClass_of_methodNamed Bd.named
  have X0 : Stand p l e oR0 s m #[(.ref ca), (.int 0), (.ref va), (.int 0), (.int 2)] below meth c s₁ [] 0 0 := Stand.of_body Bd
  have e0 : s₁.heap = h0 := by rw [← hh, Bd.state]; rfl
  have N0 := Fr.nil n0
  have pre0 := own_pre (p := p) (e := e) (below := below) (s₁ := s₁) (ef9b m ca va)
  obtain ⟨c1, Arc1, qc1, Sc1, Mc1, Hc1, Gc1⟩ := id Vc
  have hinc1 : ¬ ((0 : Int32) < 0 ∨ c1.slots.size ≤ ((0 : Int32)).toNatClampNeg) := inb_of Sc1 ⟨by decide, by decide⟩
  have hatc1 : c1.slots[((0 : Int32)).toNatClampNeg]? = some (.int u0) := Hc1.at hinc1 rfl
  obtain ⟨c2, Arc2, qc2, Sc2, Mc2, Hc2, Gc2⟩ := id Vx
  have hinc2 : ¬ ((0 : Int32) < 0 ∨ c2.slots.size ≤ ((0 : Int32)).toNatClampNeg) := inb_of Sc2 ⟨by decide, by decide⟩
  obtain ⟨T3, h3, X3, e3, W3, st3⟩ := stB X0 hx hZ e0 Arc2 (j := (0 : Int32)) hinc2  (g := (mkF m 31 #[oa ca, oi 0, oa va, oi 0, oi 2, oi 0, oi u0] [(.int (u0.toInt8.toInt32)), (.int 0), (.ref va)])) rfl rfl (hb hby d9_31)
  have V3 : Arv Z h3 va kv .byte (2 : Int32) [(.int ((u0.toInt8.toInt32).toInt8.toInt32)), (.int 0)] (.int 0) := Arv.set Arc2 qc2 Sc2 Mc2 Hc2 Gc2 (fits_nar_byte _) W3 0 rfl (Nat.le_of_ble_eq_true rfl)
  have Z4 : n0 ≤ h3.size := Nat.le_trans Z0 (Nat.le_of_eq W3.size.symm)
  have K5 : Keep h0 h3 [va] := (Keep.refl h0 [va]).wr W3 (Or.inl (List.mem_of_getElem? (i := 0) rfl))
  have N3 := Fr.snoc X3 N0 gx
  have fa6 := (Vc.other W3 nx)
  obtain ⟨c7, Arc7, qc7, Sc7, Mc7, Hc7, Gc7⟩ := id fa6
  have hinc7 : ¬ ((1 : Int32) < 0 ∨ c7.slots.size ≤ ((1 : Int32)).toNatClampNeg) := inb_of Sc7 ⟨by decide, by decide⟩
  have hatc7 : c7.slots[((1 : Int32)).toNatClampNeg]? = some (.int u1) := Hc7.at hinc7 rfl
  obtain ⟨fsZ, hrZ, hrun, hended, hW, hsame⟩ := X3.leave (v := some (.int 1)) (fun h => by rw [Bd.returns] at h; cases h)
  refine ⟨_, _, pre0 _ ?_, hrun, hended, _, _, rfl, ?_, ⟨_, rfl⟩, hW, hsame.mono (by decide) (by decide)⟩
  · show Steps _ _ _ (s₁.setTop (mkF m 0 #[oa ca, oi 0, oa va, oi 0, oi 2, .unset, .unset] [])) _
    refine XS.iconst X0.here hx rfl (hb hby d9_0) ?_
    refine XS.istore X0.here hx rfl (hb hby d9_1) rfl (l' := #[oa ca, oi 0, oa va, oi 0, oi 2, oi 0, .unset]) rfl ?_
    refine XS.iload X0.here hx rfl (hb hby d9_3) rfl  ?_
    refine XS.iload X0.here hx rfl (hb hby d9_5) rfl  ?_
    refine XS.icmpNo X0.here hx rfl (hb hby d9_7) rfl (tlt (by decide)).2.1 ?_
    refine XS.aloadN X0.here hx rfl (hb hby d9_10) rfl rfl ?_
    refine XS.iloadN X0.here hx rfl (hb hby d9_11) rfl  ?_
    show Steps _ _ _ (s₁.setTop (mkF m 12 #[oa ca, oi 0, oa va, oi 0, oi 2, oi 0, .unset] [(.int 0), (.ref ca)])) _
    refine X0.caload hx (j := (0 : Int32)) (v := (.int u0)) (by rw [e0]; exact Arc1.1) (State.isArrayOf_alike hZ.alike Arc1.2.1) Arc1.2.2 hinc1 hatc1 (g := (mkF m 12 #[oa ca, oi 0, oa va, oi 0, oi 2, oi 0, .unset] [(.int 0), (.ref ca)])) rfl rfl (hb hby d9_12) _ ?_
    refine XS.istore X0.here hx rfl (hb hby d9_13) rfl (l' := #[oa ca, oi 0, oa va, oi 0, oi 2, oi 0, oi u0]) rfl ?_
    refine XS.iload X0.here hx rfl (hb hby d9_15) rfl  ?_
    refine XS.sipush X0.here hx rfl (hb hby d9_17) ?_
    refine XS.icmpYes X0.here hx rfl (pc0 := 20) (pc' := 26) rfl (hb hby d9_20) rfl (flt h0x).2.2.2 (by decide) (by decide) ?_
    refine XS.aloadN X0.here hx rfl (hb hby d9_26) rfl rfl ?_
    refine XS.iloadN X0.here hx rfl (hb hby d9_27) rfl  ?_
    refine XS.iload X0.here hx rfl (hb hby d9_28) rfl  ?_
    show Steps _ _ _ (s₁.setTop (mkF m 30 #[oa ca, oi 0, oa va, oi 0, oi 2, oi 0, oi u0] [(.int u0), (.int 0), (.ref va)])) _
    refine XS.i2b X0.here hx rfl (hb hby d9_30) rfl ?_
    refine st3 _ ?_
    refine XS.iinc X3.here hx rfl (hb hby d9_32) rfl (l' := #[oa ca, oi ((0 : Int32) + (1 : Int32)), oa va, oi 0, oi 2, oi 0, oi u0]) rfl ?_
    show Steps _ _ _ (T3.setTop (mkF m 35 #[oa ca, oi ((0 : Int32) + (1 : Int32)), oa va, oi 0, oi 2, oi 0, oi u0] [])) _
    rw [show ((0 : Int32) + (1 : Int32)) = (1 : Int32) from by decide]
    show Steps _ _ _ (T3.setTop (mkF m 35 #[oa ca, oi 1, oa va, oi 0, oi 2, oi 0, oi u0] [])) _
    refine XS.iinc X3.here hx rfl (hb hby d9_35) rfl (l' := #[oa ca, oi 1, oa va, oi ((0 : Int32) + (1 : Int32)), oi 2, oi 0, oi u0]) rfl ?_
    show Steps _ _ _ (T3.setTop (mkF m 38 #[oa ca, oi 1, oa va, oi ((0 : Int32) + (1 : Int32)), oi 2, oi 0, oi u0] [])) _
    rw [show ((0 : Int32) + (1 : Int32)) = (1 : Int32) from by decide]
    show Steps _ _ _ (T3.setTop (mkF m 38 #[oa ca, oi 1, oa va, oi 1, oi 2, oi 0, oi u0] [])) _
    refine XS.iinc X3.here hx rfl (hb hby d9_38) rfl (l' := #[oa ca, oi 1, oa va, oi 1, oi 2, oi ((0 : Int32) + (1 : Int32)), oi u0]) rfl ?_
    show Steps _ _ _ (T3.setTop (mkF m 41 #[oa ca, oi 1, oa va, oi 1, oi 2, oi ((0 : Int32) + (1 : Int32)), oi u0] [])) _
    rw [show ((0 : Int32) + (1 : Int32)) = (1 : Int32) from by decide]
    show Steps _ _ _ (T3.setTop (mkF m 41 #[oa ca, oi 1, oa va, oi 1, oi 2, oi 1, oi u0] [])) _
    refine XS.goto X3.here hx rfl (pc0 := 41) (pc' := 3) rfl (hb hby d9_41) (by decide) (by decide) ?_
    refine XS.iload X3.here hx rfl (hb hby d9_3) rfl  ?_
    refine XS.iload X3.here hx rfl (hb hby d9_5) rfl  ?_
    refine XS.icmpNo X3.here hx rfl (hb hby d9_7) rfl (tlt (by decide)).2.1 ?_
    refine XS.aloadN X3.here hx rfl (hb hby d9_10) rfl rfl ?_
    refine XS.iloadN X3.here hx rfl (hb hby d9_11) rfl  ?_
    show Steps _ _ _ (T3.setTop (mkF m 12 #[oa ca, oi 1, oa va, oi 1, oi 2, oi 1, oi u0] [(.int 1), (.ref ca)])) _
    refine X3.caload hx (j := (1 : Int32)) (v := (.int u1)) (by rw [e3]; exact Arc7.1) (State.isArrayOf_alike hZ.alike Arc7.2.1) Arc7.2.2 hinc7 hatc7 (g := (mkF m 12 #[oa ca, oi 1, oa va, oi 1, oi 2, oi 1, oi u0] [(.int 1), (.ref ca)])) rfl rfl (hb hby d9_12) _ ?_
    refine XS.istore X3.here hx rfl (hb hby d9_13) rfl (l' := #[oa ca, oi 1, oa va, oi 1, oi 2, oi 1, oi u1]) rfl ?_
    refine XS.iload X3.here hx rfl (hb hby d9_15) rfl  ?_
    refine XS.sipush X3.here hx rfl (hb hby d9_17) ?_
    refine XS.icmpNo X3.here hx rfl (hb hby d9_20) rfl (tlt h1x).2.2.2 ?_
    refine XS.iload X3.here hx rfl (hb hby d9_23) rfl  ?_
    show Steps _ _ _ (T3.setTop (mkF m 25 #[oa ca, oi 1, oa va, oi 1, oi 2, oi 1, oi u1] [(.int 1)])) _
    exact retI X3 hx Bd.returns (hb hby d9_25) hrZ
  · show Q9b Z ca va kq kv u0 u1 h0 n0 _ T3.heap _
    rw [e3]
    exact ⟨rfl, N3, K5⟩
theorem d9_44 : decode zc21 44 = .ok (.iload 4, 2) := by decide +kernel
theorem d9_46 : decode zc21 46 = .ok (.ireturn, 1) := by decide +kernel
theorem ef9c (m : MethodId) (ca : Addr) (va : Addr) : entryFrame m #[(.ref ca), (.int 0), (.ref va), (.int 0), (.int 2)] 7 = mkF m 0 #[oa ca, oi 0, oa va, oi 0, oi 2, .unset, .unset] [] := by first | (simp [entryFrame, mkF, argsToLocals, Value.category]; done) | rfl
def Q9c (Z : State) (ca : Addr) (va : Addr) (kq : ClassId) (kv : ClassId) (u0 : Int32) (u1 : Int32) (h0 : Heap) (n0 : Nat) (v : Option Value) (h : Heap) (L : List Loc) : Prop := v = some (.int 2) ∧ Fr n0 L ∧ Keep h0 h [va] ∧ Arv Z h va kv .byte (2 : Int32) (own_lb [u0, u1]) (.int 0)
theorem rm9c (l : Launch) (Z : State) (a0 : Array Value) (hw : ∀ d ∈ tables_1, d.before a0 Z = true) (ws : List Jvm.Cond) (ca : Addr) (va : Addr) (kq : ClassId) (kv : ClassId) (u0 : Int32) (u1 : Int32) (h0 : Heap) (n0 : Nat) (Z0 : n0 ≤ h0.size) (Vc : Arv Z h0 ca kq .char (2 : Int32) [(.int u0), (.int u1)] (.int 0)) (Vx : Arv Z h0 va kv .byte (2 : Int32) [(.int 0), (.int 0)] (.int 0)) (nx : ca ≠ va) (gx : n0 ≤ va) (h0x : ¬ ((255 : Int32) < u0)) (h1x : ¬ ((255 : Int32) < u1)) :
    MetFree l oM21 (head1 (Jvm.Cond.code oM21 zc21 7 (some .int) :: ws) oR0) (fun a U => a = #[(.ref ca), (.int 0), (.ref va), (.int 0), (.int 2)] ∧ Z.Warmed39 U.vm ∧ U.heap = h0) (fun _ _ _ _ _ => True) (fun _ U o U' => ∃ v L, o = .returned v ∧ Q9c Z ca va kq kv u0 u1 h0 n0 v U'.heap L ∧ FrameEnd U o U' L oR0.cells oR0.slots) := by
  refine MetFree.of_bodySF (plainFor_of_name pn1) hisR ?_
  intro p e s m args below meth c s₁ Bd hml0 hP hK
  obtain ⟨rfl, hZ, hh⟩ := hP
  have hx := Bd.exec
  have hby := Bd.bytes
  have hml : c.maxLocals = 7 := hml0
  have hown : s.vm.findClass o6 = some m.cls := findClass_of_methodNamed Bd.named
  have X0 : Stand p l e oR0 s m #[(.ref ca), (.int 0), (.ref va), (.int 0), (.int 2)] below meth c s₁ [] 0 0 := Stand.of_body Bd
  have e0 : s₁.heap = h0 := by rw [← hh, Bd.state]; rfl
  have N0 := Fr.nil n0
  have pre0 := own_pre (p := p) (e := e) (below := below) (s₁ := s₁) (ef9c m ca va)
  obtain ⟨c1, Arc1, qc1, Sc1, Mc1, Hc1, Gc1⟩ := id Vc
  have hinc1 : ¬ ((0 : Int32) < 0 ∨ c1.slots.size ≤ ((0 : Int32)).toNatClampNeg) := inb_of Sc1 ⟨by decide, by decide⟩
  have hatc1 : c1.slots[((0 : Int32)).toNatClampNeg]? = some (.int u0) := Hc1.at hinc1 rfl
  obtain ⟨c2, Arc2, qc2, Sc2, Mc2, Hc2, Gc2⟩ := id Vx
  have hinc2 : ¬ ((0 : Int32) < 0 ∨ c2.slots.size ≤ ((0 : Int32)).toNatClampNeg) := inb_of Sc2 ⟨by decide, by decide⟩
  obtain ⟨T3, h3, X3, e3, W3, st3⟩ := stB X0 hx hZ e0 Arc2 (j := (0 : Int32)) hinc2  (g := (mkF m 31 #[oa ca, oi 0, oa va, oi 0, oi 2, oi 0, oi u0] [(.int (u0.toInt8.toInt32)), (.int 0), (.ref va)])) rfl rfl (hb hby d9_31)
  have V3 : Arv Z h3 va kv .byte (2 : Int32) [(.int ((u0.toInt8.toInt32).toInt8.toInt32)), (.int 0)] (.int 0) := Arv.set Arc2 qc2 Sc2 Mc2 Hc2 Gc2 (fits_nar_byte _) W3 0 rfl (Nat.le_of_ble_eq_true rfl)
  have Z4 : n0 ≤ h3.size := Nat.le_trans Z0 (Nat.le_of_eq W3.size.symm)
  have K5 : Keep h0 h3 [va] := (Keep.refl h0 [va]).wr W3 (Or.inl (List.mem_of_getElem? (i := 0) rfl))
  have N3 := Fr.snoc X3 N0 gx
  have fa6 := (Vc.other W3 nx)
  obtain ⟨c7, Arc7, qc7, Sc7, Mc7, Hc7, Gc7⟩ := id fa6
  have hinc7 : ¬ ((1 : Int32) < 0 ∨ c7.slots.size ≤ ((1 : Int32)).toNatClampNeg) := inb_of Sc7 ⟨by decide, by decide⟩
  have hatc7 : c7.slots[((1 : Int32)).toNatClampNeg]? = some (.int u1) := Hc7.at hinc7 rfl
  obtain ⟨c8, Arc8, qc8, Sc8, Mc8, Hc8, Gc8⟩ := id V3
  have hinc8 : ¬ ((1 : Int32) < 0 ∨ c8.slots.size ≤ ((1 : Int32)).toNatClampNeg) := inb_of Sc8 ⟨by decide, by decide⟩
  obtain ⟨T9, h9, X9, e9, W9, st9⟩ := stB X3 hx hZ e3 Arc8 (j := (1 : Int32)) hinc8  (g := (mkF m 31 #[oa ca, oi 1, oa va, oi 1, oi 2, oi 1, oi u1] [(.int (u1.toInt8.toInt32)), (.int 1), (.ref va)])) rfl rfl (hb hby d9_31)
  have V9 : Arv Z h9 va kv .byte (2 : Int32) [(.int ((u0.toInt8.toInt32).toInt8.toInt32)), (.int ((u1.toInt8.toInt32).toInt8.toInt32))] (.int 0) := Arv.set Arc8 qc8 Sc8 Mc8 Hc8 Gc8 (fits_nar_byte _) W9 1 rfl (Nat.le_of_ble_eq_true rfl)
  have Z10 : n0 ≤ h9.size := Nat.le_trans Z4 (Nat.le_of_eq W9.size.symm)
  have K11 : Keep h0 h9 [va] := K5.wr W9 (Or.inl (List.mem_of_getElem? (i := 0) rfl))
  have N9 := Fr.snoc X9 N3 gx
  obtain ⟨fsZ, hrZ, hrun, hended, hW, hsame⟩ := X9.leave (v := some (.int 2)) (fun h => by rw [Bd.returns] at h; cases h)
  refine ⟨_, _, pre0 _ ?_, hrun, hended, _, _, rfl, ?_, ⟨_, rfl⟩, hW, hsame.mono (by decide) (by decide)⟩
  · show Steps _ _ _ (s₁.setTop (mkF m 0 #[oa ca, oi 0, oa va, oi 0, oi 2, .unset, .unset] [])) _
    refine XS.iconst X0.here hx rfl (hb hby d9_0) ?_
    refine XS.istore X0.here hx rfl (hb hby d9_1) rfl (l' := #[oa ca, oi 0, oa va, oi 0, oi 2, oi 0, .unset]) rfl ?_
    refine XS.iload X0.here hx rfl (hb hby d9_3) rfl  ?_
    refine XS.iload X0.here hx rfl (hb hby d9_5) rfl  ?_
    refine XS.icmpNo X0.here hx rfl (hb hby d9_7) rfl (tlt (by decide)).2.1 ?_
    refine XS.aloadN X0.here hx rfl (hb hby d9_10) rfl rfl ?_
    refine XS.iloadN X0.here hx rfl (hb hby d9_11) rfl  ?_
    show Steps _ _ _ (s₁.setTop (mkF m 12 #[oa ca, oi 0, oa va, oi 0, oi 2, oi 0, .unset] [(.int 0), (.ref ca)])) _
    refine X0.caload hx (j := (0 : Int32)) (v := (.int u0)) (by rw [e0]; exact Arc1.1) (State.isArrayOf_alike hZ.alike Arc1.2.1) Arc1.2.2 hinc1 hatc1 (g := (mkF m 12 #[oa ca, oi 0, oa va, oi 0, oi 2, oi 0, .unset] [(.int 0), (.ref ca)])) rfl rfl (hb hby d9_12) _ ?_
    refine XS.istore X0.here hx rfl (hb hby d9_13) rfl (l' := #[oa ca, oi 0, oa va, oi 0, oi 2, oi 0, oi u0]) rfl ?_
    refine XS.iload X0.here hx rfl (hb hby d9_15) rfl  ?_
    refine XS.sipush X0.here hx rfl (hb hby d9_17) ?_
    refine XS.icmpYes X0.here hx rfl (pc0 := 20) (pc' := 26) rfl (hb hby d9_20) rfl (flt h0x).2.2.2 (by decide) (by decide) ?_
    refine XS.aloadN X0.here hx rfl (hb hby d9_26) rfl rfl ?_
    refine XS.iloadN X0.here hx rfl (hb hby d9_27) rfl  ?_
    refine XS.iload X0.here hx rfl (hb hby d9_28) rfl  ?_
    show Steps _ _ _ (s₁.setTop (mkF m 30 #[oa ca, oi 0, oa va, oi 0, oi 2, oi 0, oi u0] [(.int u0), (.int 0), (.ref va)])) _
    refine XS.i2b X0.here hx rfl (hb hby d9_30) rfl ?_
    refine st3 _ ?_
    refine XS.iinc X3.here hx rfl (hb hby d9_32) rfl (l' := #[oa ca, oi ((0 : Int32) + (1 : Int32)), oa va, oi 0, oi 2, oi 0, oi u0]) rfl ?_
    show Steps _ _ _ (T3.setTop (mkF m 35 #[oa ca, oi ((0 : Int32) + (1 : Int32)), oa va, oi 0, oi 2, oi 0, oi u0] [])) _
    rw [show ((0 : Int32) + (1 : Int32)) = (1 : Int32) from by decide]
    show Steps _ _ _ (T3.setTop (mkF m 35 #[oa ca, oi 1, oa va, oi 0, oi 2, oi 0, oi u0] [])) _
    refine XS.iinc X3.here hx rfl (hb hby d9_35) rfl (l' := #[oa ca, oi 1, oa va, oi ((0 : Int32) + (1 : Int32)), oi 2, oi 0, oi u0]) rfl ?_
    show Steps _ _ _ (T3.setTop (mkF m 38 #[oa ca, oi 1, oa va, oi ((0 : Int32) + (1 : Int32)), oi 2, oi 0, oi u0] [])) _
    rw [show ((0 : Int32) + (1 : Int32)) = (1 : Int32) from by decide]
    show Steps _ _ _ (T3.setTop (mkF m 38 #[oa ca, oi 1, oa va, oi 1, oi 2, oi 0, oi u0] [])) _
    refine XS.iinc X3.here hx rfl (hb hby d9_38) rfl (l' := #[oa ca, oi 1, oa va, oi 1, oi 2, oi ((0 : Int32) + (1 : Int32)), oi u0]) rfl ?_
    show Steps _ _ _ (T3.setTop (mkF m 41 #[oa ca, oi 1, oa va, oi 1, oi 2, oi ((0 : Int32) + (1 : Int32)), oi u0] [])) _
    rw [show ((0 : Int32) + (1 : Int32)) = (1 : Int32) from by decide]
    show Steps _ _ _ (T3.setTop (mkF m 41 #[oa ca, oi 1, oa va, oi 1, oi 2, oi 1, oi u0] [])) _
    refine XS.goto X3.here hx rfl (pc0 := 41) (pc' := 3) rfl (hb hby d9_41) (by decide) (by decide) ?_
    refine XS.iload X3.here hx rfl (hb hby d9_3) rfl  ?_
    refine XS.iload X3.here hx rfl (hb hby d9_5) rfl  ?_
    refine XS.icmpNo X3.here hx rfl (hb hby d9_7) rfl (tlt (by decide)).2.1 ?_
    refine XS.aloadN X3.here hx rfl (hb hby d9_10) rfl rfl ?_
    refine XS.iloadN X3.here hx rfl (hb hby d9_11) rfl  ?_
    show Steps _ _ _ (T3.setTop (mkF m 12 #[oa ca, oi 1, oa va, oi 1, oi 2, oi 1, oi u0] [(.int 1), (.ref ca)])) _
    refine X3.caload hx (j := (1 : Int32)) (v := (.int u1)) (by rw [e3]; exact Arc7.1) (State.isArrayOf_alike hZ.alike Arc7.2.1) Arc7.2.2 hinc7 hatc7 (g := (mkF m 12 #[oa ca, oi 1, oa va, oi 1, oi 2, oi 1, oi u0] [(.int 1), (.ref ca)])) rfl rfl (hb hby d9_12) _ ?_
    refine XS.istore X3.here hx rfl (hb hby d9_13) rfl (l' := #[oa ca, oi 1, oa va, oi 1, oi 2, oi 1, oi u1]) rfl ?_
    refine XS.iload X3.here hx rfl (hb hby d9_15) rfl  ?_
    refine XS.sipush X3.here hx rfl (hb hby d9_17) ?_
    refine XS.icmpYes X3.here hx rfl (pc0 := 20) (pc' := 26) rfl (hb hby d9_20) rfl (flt h1x).2.2.2 (by decide) (by decide) ?_
    refine XS.aloadN X3.here hx rfl (hb hby d9_26) rfl rfl ?_
    refine XS.iloadN X3.here hx rfl (hb hby d9_27) rfl  ?_
    refine XS.iload X3.here hx rfl (hb hby d9_28) rfl  ?_
    show Steps _ _ _ (T3.setTop (mkF m 30 #[oa ca, oi 1, oa va, oi 1, oi 2, oi 1, oi u1] [(.int u1), (.int 1), (.ref va)])) _
    refine XS.i2b X3.here hx rfl (hb hby d9_30) rfl ?_
    refine st9 _ ?_
    refine XS.iinc X9.here hx rfl (hb hby d9_32) rfl (l' := #[oa ca, oi ((1 : Int32) + (1 : Int32)), oa va, oi 1, oi 2, oi 1, oi u1]) rfl ?_
    show Steps _ _ _ (T9.setTop (mkF m 35 #[oa ca, oi ((1 : Int32) + (1 : Int32)), oa va, oi 1, oi 2, oi 1, oi u1] [])) _
    rw [show ((1 : Int32) + (1 : Int32)) = (2 : Int32) from by decide]
    show Steps _ _ _ (T9.setTop (mkF m 35 #[oa ca, oi 2, oa va, oi 1, oi 2, oi 1, oi u1] [])) _
    refine XS.iinc X9.here hx rfl (hb hby d9_35) rfl (l' := #[oa ca, oi 2, oa va, oi ((1 : Int32) + (1 : Int32)), oi 2, oi 1, oi u1]) rfl ?_
    show Steps _ _ _ (T9.setTop (mkF m 38 #[oa ca, oi 2, oa va, oi ((1 : Int32) + (1 : Int32)), oi 2, oi 1, oi u1] [])) _
    rw [show ((1 : Int32) + (1 : Int32)) = (2 : Int32) from by decide]
    show Steps _ _ _ (T9.setTop (mkF m 38 #[oa ca, oi 2, oa va, oi 2, oi 2, oi 1, oi u1] [])) _
    refine XS.iinc X9.here hx rfl (hb hby d9_38) rfl (l' := #[oa ca, oi 2, oa va, oi 2, oi 2, oi ((1 : Int32) + (1 : Int32)), oi u1]) rfl ?_
    show Steps _ _ _ (T9.setTop (mkF m 41 #[oa ca, oi 2, oa va, oi 2, oi 2, oi ((1 : Int32) + (1 : Int32)), oi u1] [])) _
    rw [show ((1 : Int32) + (1 : Int32)) = (2 : Int32) from by decide]
    show Steps _ _ _ (T9.setTop (mkF m 41 #[oa ca, oi 2, oa va, oi 2, oi 2, oi 2, oi u1] [])) _
    refine XS.goto X9.here hx rfl (pc0 := 41) (pc' := 3) rfl (hb hby d9_41) (by decide) (by decide) ?_
    refine XS.iload X9.here hx rfl (hb hby d9_3) rfl  ?_
    refine XS.iload X9.here hx rfl (hb hby d9_5) rfl  ?_
    refine XS.icmpYes X9.here hx rfl (pc0 := 7) (pc' := 44) rfl (hb hby d9_7) rfl (flt (by decide)).2.1 (by decide) (by decide) ?_
    refine XS.iload X9.here hx rfl (hb hby d9_44) rfl  ?_
    show Steps _ _ _ (T9.setTop (mkF m 46 #[oa ca, oi 2, oa va, oi 2, oi 2, oi 2, oi u1] [(.int 2)])) _
    exact retI X9 hx Bd.returns (hb hby d9_46) hrZ
  · show Q9c Z ca va kq kv u0 u1 h0 n0 _ T9.heap _
    rw [e9]
    exact ⟨rfl, N9, K11, (by have q := V9; simp only [own_88] at q; exact q)⟩
theorem d8_0 : decode zc22 0 = .ok (.iload_n 2, 1) := by decide +kernel
theorem d8_1 : decode zc22 1 = .ok (.newarray .byte, 2) := by decide +kernel
theorem d8_3 : decode zc22 3 = .ok (.astore_n 3, 1) := by decide +kernel
theorem d8_4 : decode zc22 4 = .ok (.aload_n 0, 1) := by decide +kernel
theorem d8_5 : decode zc22 5 = .ok (.iload_n 1, 1) := by decide +kernel
theorem d8_6 : decode zc22 6 = .ok (.aload_n 3, 1) := by decide +kernel
theorem d8_7 : decode zc22 7 = .ok (.iconst 0, 1) := by decide +kernel
theorem d8_8 : decode zc22 8 = .ok (.iload_n 2, 1) := by decide +kernel
theorem d8_9 : decode zc22 9 = .ok (.invokestatic 115, 3) := by decide +kernel
theorem pd16 : parseMethodDescriptor "([CI[BII)I" = some ⟨[(.array .char), .int, (.array .byte), .int, .int], some .int⟩ := by decide +kernel
theorem d8_12 : decode zc22 12 = .ok (.istore 4, 2) := by decide +kernel
theorem d8_14 : decode zc22 14 = .ok (.iload 4, 2) := by decide +kernel
theorem d8_16 : decode zc22 16 = .ok (.iload_n 2, 1) := by decide +kernel
theorem d8_17 : decode zc22 17 = .ok (.if_icmp .eq 40, 3) := by decide +kernel
theorem d8_57 : decode zc22 57 = .ok (.aload_n 3, 1) := by decide +kernel
theorem d8_58 : decode zc22 58 = .ok (.areturn, 1) := by decide +kernel
theorem ef8L (m : MethodId) (ca : Addr) : entryFrame m #[(.ref ca), (.int 0), (.int 2)] 6 = mkF m 0 #[oa ca, oi 0, oi 2, .unset, .unset, .unset] [] := by first | (simp [entryFrame, mkF, argsToLocals, Value.category]; done) | rfl
def Q8L (Z : State) (ca : Addr) (kq : ClassId) (u0 : Int32) (u1 : Int32) (h0 : Heap) (n0 : Nat) (v : Option Value) (h : Heap) (L : List Loc) : Prop := ∃ (vb : Addr) (kb : ClassId), v = some (.ref vb) ∧ Fr n0 L ∧ Keep h0 h [] ∧ n0 ≤ vb ∧ h0.size ≤ vb ∧ Arv Z h vb kb .byte (2 : Int32) (own_lb [u0, u1]) (.int 0)
theorem rm8L (l : Launch) (Z : State) (a0 : Array Value) (hw : ∀ d ∈ tables_1, d.before a0 Z = true) (ws : List Jvm.Cond) (ca : Addr) (kq : ClassId) (u0 : Int32) (u1 : Int32) (h0 : Heap) (n0 : Nat) (Z0 : n0 ≤ h0.size) (Vc : Arv Z h0 ca kq .char (2 : Int32) [(.int u0), (.int u1)] (.int 0)) (h0x : ¬ ((255 : Int32) < u0)) (h1x : ¬ ((255 : Int32) < u1)) :
    MetFree l oM22 (head1 (Jvm.Cond.code oM22 zc22 6 (some (.array .byte)) :: ws) oR13) (fun a U => a = #[(.ref ca), (.int 0), (.int 2)] ∧ Z.Warmed39 U.vm ∧ U.heap = h0) (fun _ _ _ _ _ => True) (fun _ U o U' => ∃ v L, o = .returned v ∧ Q8L Z ca kq u0 u1 h0 n0 v U'.heap L ∧ FrameEnd U o U' L oR13.cells oR13.slots) := by
  refine MetFree.of_bodySF (plainFor_of_name pn1) hisR ?_
  intro p e s m args below meth c s₁ Bd hml0 hP hK
  obtain ⟨rfl, hZ, hh⟩ := hP
  have hx := Bd.exec
  have hby := Bd.bytes
  have hml : c.maxLocals = 6 := hml0
  have hown : s.vm.findClass o6 = some m.cls := findClass_of_methodNamed Bd.named
  have X0 : Stand p l e oR13 s m #[(.ref ca), (.int 0), (.int 2)] below meth c s₁ [] 0 0 := Stand.of_body Bd
  have e0 : s₁.heap = h0 := by rw [← hh, Bd.state]; rfl
  have N0 := Fr.nil n0
  have pre0 := own_pre (p := p) (e := e) (below := below) (s₁ := s₁) (ef8L m ca)
  obtain ⟨T1, h1, k1, X1, e1, E1, A1, st1⟩ := newP X0 hx hZ (ow hw 15 rfl) e0 (g := (mkF m 1 #[oa ca, oi 0, oi 2, .unset, .unset, .unset] [(.int 2)])) rfl (hb hby d8_1) rfl (by decide) (cap := 2) (by decide) (by decide) (by decide) (by decide)
  obtain ⟨b1, g1⟩ : ∃ z, z = h0.size := ⟨_, rfl⟩
  rw [← g1] at A1 st1
  have ne2 := own_nb Vc.lt g1
  have gn_b1 : n0 ≤ b1 := Nat.le_trans Z0 (Nat.le_of_eq g1.symm)
  have sz_b1 : h0.size ≤ b1 := Nat.le_trans (Keep.refl h0 []).1 (Nat.le_of_eq g1.symm)
  have Z3 : n0 ≤ h1.size := Nat.le_trans Z0 E1.1
  have K4 : Keep h0 h1 [] := (Keep.refl h0 []).ext E1
  have V1 : Arv Z h1 b1 k1 .byte (2 : Int32) [(.int 0), (.int 0)] (.int 0) := (Arv.new A1 (by decide)).pad (pad_rep [] (.int 0) 2)
  have fa5 := (Vc.ext E1)
  obtain ⟨_, _, ⟨T6, L6, k6, n6⟩, -, X6, ⟨Lc6, hQ6, l6, y6, z6⟩, st6⟩ := Jvm.LawKit.callS X1 hx (y := oM21) hown (mvT hZ (ow hw 39 rfl)) (mvT hZ (ow hw 40 rfl)) (mvT hZ (ow hw 37 rfl)) (mvT hZ (ow hw 41 rfl)) (by decide) (backOf (W := 0) (rm9c l Z a0 hw [] ca b1 kq k1 u0 u1 h1 n0 Z3 fa5 V1 ne2 gn_b1 h0x h1x) hZ (ow hw 41 rfl) (ow hw 37 rfl) (by decide) (by decide)) (g := (mkF m 9 #[oa ca, oi 0, oi 2, oa b1, .unset, .unset] [(.int 2), (.int 0), (.ref b1), (.int 0), (.ref ca)])) rfl (by rw [hml]; rfl) (argsL := [(.ref ca), (.int 0), (.ref b1), (.int 0), (.int 2)]) (rest := []) (lenOf pd16 rfl) rfl (Nat.le_of_eq rfl) (hb hby d8_9) (fun _ _ => ⟨rfl, e1, (by decide : 1 + 0 ≤ _), (by decide : 2 + 0 ≤ _)⟩)
  dsimp only [Pt.U, Pt.locs, Pt.cells, Pt.slots] at X6 l6 y6 z6 st6 hQ6
  subst l6 y6 z6
  obtain ⟨rfl, N6q, K6, f6_0⟩ := hQ6
  have N6 := Fr.app N0 N6q
  have Z7 : n0 ≤ T6.heap.size := Nat.le_trans Z3 K6.1
  have K8 : Keep h0 T6.heap [] := K4.trans K6 (allS (P := fun x => x ∈ _ ∨ _) (Or.inr sz_b1) all0)
  obtain ⟨fsZ, hrZ, hrun, hended, hW, hsame⟩ := X6.leave (v := some (.ref b1)) (fun h => by rw [Bd.returns] at h; cases h)
  refine ⟨_, _, pre0 _ ?_, hrun, hended, _, _, rfl, ?_, ⟨_, rfl⟩, hW, hsame.mono (by decide) (by decide)⟩
  · show Steps _ _ _ (s₁.setTop (mkF m 0 #[oa ca, oi 0, oi 2, .unset, .unset, .unset] [])) _
    refine XS.iloadN X0.here hx rfl (hb hby d8_0) rfl  ?_
    refine st1 _ ?_
    refine XS.astoreN X1.here hx rfl (hb hby d8_3) rfl rfl (l' := #[oa ca, oi 0, oi 2, oa b1, .unset, .unset]) rfl ?_
    refine XS.aloadN X1.here hx rfl (hb hby d8_4) rfl rfl ?_
    refine XS.iloadN X1.here hx rfl (hb hby d8_5) rfl  ?_
    refine XS.aloadN X1.here hx rfl (hb hby d8_6) rfl rfl ?_
    refine XS.iconst X1.here hx rfl (hb hby d8_7) ?_
    refine XS.iloadN X1.here hx rfl (hb hby d8_8) rfl  ?_
    show Steps _ _ _ (T1.setTop (mkF m 9 #[oa ca, oi 0, oi 2, oa b1, .unset, .unset] [(.int 2), (.int 0), (.ref b1), (.int 0), (.ref ca)])) _
    refine st6 _ ?_
    refine XS.istore X6.here hx rfl (hb hby d8_12) rfl (l' := #[oa ca, oi 0, oi 2, oa b1, oi 2, .unset]) rfl ?_
    refine XS.iload X6.here hx rfl (hb hby d8_14) rfl  ?_
    refine XS.iloadN X6.here hx rfl (hb hby d8_16) rfl  ?_
    refine XS.icmpYes X6.here hx rfl (pc0 := 17) (pc' := 57) rfl (hb hby d8_17) rfl (teq (by decide)).1 (by decide) (by decide) ?_
    refine XS.aloadN X6.here hx rfl (hb hby d8_57) rfl rfl ?_
    show Steps _ _ _ (T6.setTop (mkF m 58 #[oa ca, oi 0, oi 2, oa b1, oi 2, .unset] [(.ref b1)])) _
    jvm_step X6.here [X6.here.top, hx, (hb hby d8_58), X6.method', Bd.returns, Value.isRef, FieldType.isReference]
    first | (intro acts; rw [hrZ _ acts rfl rfl rfl]) | rw [hrZ _ _ rfl rfl rfl]
    exact Steps.refl _
  · show Q8L Z ca kq u0 u1 h0 n0 _ T6.heap _
    exact ⟨b1, k1, rfl, N6, K8, gn_b1, sz_b1, f6_0⟩
theorem d8_20 : decode zc22 20 = .ok (.aload_n 0, 1) := by decide +kernel
theorem d8_21 : decode zc22 21 = .ok (.iload_n 1, 1) := by decide +kernel
theorem d8_22 : decode zc22 22 = .ok (.iload_n 2, 1) := by decide +kernel
theorem d8_23 : decode zc22 23 = .ok (.invokestatic 119, 3) := by decide +kernel
theorem pd17 : parseMethodDescriptor "([CII)[B" = some ⟨[(.array .char), .int, .int], some (.array .byte)⟩ := by decide +kernel
theorem d8_26 : decode zc22 26 = .ok (.astore 5, 2) := by decide +kernel
theorem d8_28 : decode zc22 28 = .ok (.aload 5, 2) := by decide +kernel
theorem d8_30 : decode zc22 30 = .ok (.iload 4, 2) := by decide +kernel
theorem d8_32 : decode zc22 32 = .ok (.invokestatic 71, 3) := by decide +kernel
theorem d8_35 : decode zc22 35 = .ok (.sipush 255, 3) := by decide +kernel
theorem d8_38 : decode zc22 38 = .ok (.if_icmp .gt 16, 3) := by decide +kernel
theorem d8_54 : decode zc22 54 = .ok (.aload 5, 2) := by decide +kernel
theorem d8_56 : decode zc22 56 = .ok (.areturn, 1) := by decide +kernel
theorem ef8U (m : MethodId) (ca : Addr) : entryFrame m #[(.ref ca), (.int 0), (.int 2)] 6 = mkF m 0 #[oa ca, oi 0, oi 2, .unset, .unset, .unset] [] := by first | (simp [entryFrame, mkF, argsToLocals, Value.category]; done) | rfl
def Q8U (Z : State) (ca : Addr) (kq : ClassId) (u0 : Int32) (u1 : Int32) (h0 : Heap) (n0 : Nat) (v : Option Value) (h : Heap) (L : List Loc) : Prop := ∃ (vb : Addr) (kb : ClassId), v = some (.ref vb) ∧ Fr n0 L ∧ Keep h0 h [] ∧ n0 ≤ vb ∧ h0.size ≤ vb ∧ Arv Z h vb kb .byte (4 : Int32) (own_ub [u0, u1]) (.int 0)
theorem rm8U (l : Launch) (Z : State) (a0 : Array Value) (hw : ∀ d ∈ tables_1, d.before a0 Z = true) (ws : List Jvm.Cond) (ca : Addr) (kq : ClassId) (u0 : Int32) (u1 : Int32) (h0 : Heap) (n0 : Nat) (Z0 : n0 ≤ h0.size) (Vc : Arv Z h0 ca kq .char (2 : Int32) [(.int u0), (.int u1)] (.int 0)) (Ox : Old Z n0 h0) (Ua : Sta Z Z.heap o6 "$assertionsDisabled" "Z" (.int 1)) (Uh : Sta Z Z.heap o6 "HI_BYTE_SHIFT" "I" (.int 0)) (Ul : Sta Z Z.heap o6 "LO_BYTE_SHIFT" "I" (.int 8)) (hc0 : own_ch u0) (hc1 : own_ch u1) (hun : ¬ own_lat [u0, u1]) :
    MetFree l oM22 (head1 (Jvm.Cond.code oM22 zc22 6 (some (.array .byte)) :: ws) oR14) (fun a U => a = #[(.ref ca), (.int 0), (.int 2)] ∧ Z.Warmed39 U.vm ∧ U.heap = h0) (fun _ _ _ _ _ => True) (fun _ U o U' => ∃ v L, o = .returned v ∧ Q8U Z ca kq u0 u1 h0 n0 v U'.heap L ∧ FrameEnd U o U' L oR14.cells oR14.slots) := by
  refine MetFree.of_bodySF (plainFor_of_name pn1) hisR ?_
  intro p e s m args below meth c s₁ Bd hml0 hP hK
  obtain ⟨rfl, hZ, hh⟩ := hP
  have hx := Bd.exec
  have hby := Bd.bytes
  have hml : c.maxLocals = 6 := hml0
  have hown : s.vm.findClass o6 = some m.cls := findClass_of_methodNamed Bd.named
  have X0 : Stand p l e oR14 s m #[(.ref ca), (.int 0), (.int 2)] below meth c s₁ [] 0 0 := Stand.of_body Bd
  have e0 : s₁.heap = h0 := by rw [← hh, Bd.state]; rfl
  have N0 := Fr.nil n0
  have pre0 := own_pre (p := p) (e := e) (below := below) (s₁ := s₁) (ef8U m ca)
  by_cases h0x : (255 : Int32) < u0
  ·  -- a
    obtain ⟨T1, h1, k1, X1, e1, E1, A1, st1⟩ := newP X0 hx hZ (ow hw 15 rfl) e0 (g := (mkF m 1 #[oa ca, oi 0, oi 2, .unset, .unset, .unset] [(.int 2)])) rfl (hb hby d8_1) rfl (by decide) (cap := 2) (by decide) (by decide) (by decide) (by decide)
    obtain ⟨b1, g1⟩ : ∃ z, z = h0.size := ⟨_, rfl⟩
    rw [← g1] at A1 st1
    have ne2 := own_nb Vc.lt g1
    have gn_b1 : n0 ≤ b1 := Nat.le_trans Z0 (Nat.le_of_eq g1.symm)
    have sz_b1 : h0.size ≤ b1 := Nat.le_trans (Keep.refl h0 []).1 (Nat.le_of_eq g1.symm)
    have Z3 : n0 ≤ h1.size := Nat.le_trans Z0 E1.1
    have K4 : Keep h0 h1 [] := (Keep.refl h0 []).ext E1
    have V1 : Arv Z h1 b1 k1 .byte (2 : Int32) [(.int 0), (.int 0)] (.int 0) := (Arv.new A1 (by decide)).pad (pad_rep [] (.int 0) 2)
    have fa5 := (Vc.ext E1)
    obtain ⟨_, _, ⟨T6, L6, k6, n6⟩, -, X6, ⟨Lc6, hQ6, l6, y6, z6⟩, st6⟩ := Jvm.LawKit.callS X1 hx (y := oM21) hown (mvT hZ (ow hw 39 rfl)) (mvT hZ (ow hw 40 rfl)) (mvT hZ (ow hw 37 rfl)) (mvT hZ (ow hw 41 rfl)) (by decide) (backOf (W := 0) (rm9a l Z a0 hw [] ca b1 kq k1 u0 u1 h1 n0 Z3 fa5 V1 ne2 gn_b1 (by first | assumption | decide | omega)) hZ (ow hw 41 rfl) (ow hw 37 rfl) (by decide) (by decide)) (g := (mkF m 9 #[oa ca, oi 0, oi 2, oa b1, .unset, .unset] [(.int 2), (.int 0), (.ref b1), (.int 0), (.ref ca)])) rfl (by rw [hml]; rfl) (argsL := [(.ref ca), (.int 0), (.ref b1), (.int 0), (.int 2)]) (rest := []) (lenOf pd16 rfl) rfl (Nat.le_of_eq rfl) (hb hby d8_9) (fun _ _ => ⟨rfl, e1, (by decide : 1 + 0 ≤ _), (by decide : 2 + 0 ≤ _)⟩)
    dsimp only [Pt.U, Pt.locs, Pt.cells, Pt.slots] at X6 l6 y6 z6 st6 hQ6
    subst l6 y6 z6
    obtain ⟨rfl, N6q, K6⟩ := hQ6
    have N6 := Fr.app N0 N6q
    have Z7 : n0 ≤ T6.heap.size := Nat.le_trans Z3 K6.1
    have K8 : Keep h0 T6.heap [] := K4.trans K6 (allS (P := fun x => x ∈ _ ∨ _) (Or.inr sz_b1) all0)
    have fa9 := (fa5.keep K6 (ninS ne2 nin0))
    have fa10 := ((Ox.ext E1).keep K6 (allS (P := fun x => n0 ≤ x) gn_b1 all0))
    obtain ⟨_, _, ⟨T11, L11, k11, n11⟩, -, X11, ⟨Lc11, hQ11, l11, y11, z11⟩, st11⟩ := Jvm.LawKit.callS X6 hx (y := oM20) hown (mvT hZ (ow hw 215 rfl)) (mvT hZ (ow hw 216 rfl)) (mvT hZ (ow hw 37 rfl)) (mvT hZ (ow hw 217 rfl)) (by decide) (backOf (W := 0) (rm42 l Z a0 hw [] ca kq u0 u1 T6.heap n0 Z7 fa9 fa10 Ua Uh Ul) hZ (ow hw 217 rfl) (ow hw 37 rfl) (by decide) (by decide)) (g := (mkF m 23 #[oa ca, oi 0, oi 2, oa b1, oi 0, .unset] [(.int 2), (.int 0), (.ref ca)])) rfl (by rw [hml]; rfl) (argsL := [(.ref ca), (.int 0), (.int 2)]) (rest := []) (lenOf pd17 rfl) rfl (Nat.le_of_eq rfl) (hb hby d8_23) (fun _ _ => ⟨rfl, rfl, (by decide : 1 + 1 ≤ _), (by decide : 2 + 4 ≤ _)⟩)
    dsimp only [Pt.U, Pt.locs, Pt.cells, Pt.slots] at X11 l11 y11 z11 st11 hQ11
    subst l11 y11 z11
    obtain ⟨vb_12, kb_13, rfl, N11q, K11, u11_0, u11_1, f11_0⟩ := hQ11
    have N11 := Fr.app N6 N11q
    have Z14 : n0 ≤ T11.heap.size := Nat.le_trans Z7 K11.1
    have K15 : Keep h0 T11.heap [] := K8.trans K11 all0
    have ne16 := own_nc fa9.lt u11_1
    have sz_vb_12 : h0.size ≤ vb_12 := Nat.le_trans K8.1 u11_1
    have fa17 := (fa10.keep K11 all0)
    obtain ⟨_, _, ⟨T18, L18, k18, n18⟩, -, X18, ⟨Lc18, hQ18, l18, y18, z18⟩, st18⟩ := Jvm.LawKit.callS X11 hx (y := oM9) hown (mvT hZ (ow hw 225 rfl)) (mvT hZ (ow hw 226 rfl)) (mvT hZ (ow hw 37 rfl)) (mvT hZ (ow hw 227 rfl)) (by decide) (backOf (W := 0) (rm45 l Z a0 hw [] vb_12 (0 : Int32) kb_13 (4 : Int32) [u0, u1] u0 T11.heap n0 Z14 f11_0 fa17 Ua Uh Ul hc0 rfl (by first | assumption | decide | omega) (by first | assumption | decide | omega)) hZ (ow hw 227 rfl) (ow hw 37 rfl) (by decide) (by decide)) (g := (mkF m 32 #[oa ca, oi 0, oi 2, oa b1, oi 0, oa vb_12] [(.int 0), (.ref vb_12)])) rfl (by rw [hml]; rfl) (argsL := [(.ref vb_12), (.int 0)]) (rest := []) (lenOf pd10 rfl) rfl (Nat.le_of_eq rfl) (hb hby d8_32) (fun _ _ => ⟨rfl, rfl, (by decide : 2 + 0 ≤ _), (by decide : 6 + 0 ≤ _)⟩)
    dsimp only [Pt.U, Pt.locs, Pt.cells, Pt.slots] at X18 l18 y18 z18 st18 hQ18
    subst l18 y18 z18
    obtain ⟨rfl, N18q, e18⟩ := hQ18
    have N18 := Fr.app N11 N18q
    obtain ⟨fsZ, hrZ, hrun, hended, hW, hsame⟩ := X18.leave (v := some (.ref vb_12)) (fun h => by rw [Bd.returns] at h; cases h)
    refine ⟨_, _, pre0 _ ?_, hrun, hended, _, _, rfl, ?_, ⟨_, rfl⟩, hW, hsame.mono (by decide) (by decide)⟩
    · show Steps _ _ _ (s₁.setTop (mkF m 0 #[oa ca, oi 0, oi 2, .unset, .unset, .unset] [])) _
      refine XS.iloadN X0.here hx rfl (hb hby d8_0) rfl  ?_
      refine st1 _ ?_
      refine XS.astoreN X1.here hx rfl (hb hby d8_3) rfl rfl (l' := #[oa ca, oi 0, oi 2, oa b1, .unset, .unset]) rfl ?_
      refine XS.aloadN X1.here hx rfl (hb hby d8_4) rfl rfl ?_
      refine XS.iloadN X1.here hx rfl (hb hby d8_5) rfl  ?_
      refine XS.aloadN X1.here hx rfl (hb hby d8_6) rfl rfl ?_
      refine XS.iconst X1.here hx rfl (hb hby d8_7) ?_
      refine XS.iloadN X1.here hx rfl (hb hby d8_8) rfl  ?_
      show Steps _ _ _ (T1.setTop (mkF m 9 #[oa ca, oi 0, oi 2, oa b1, .unset, .unset] [(.int 2), (.int 0), (.ref b1), (.int 0), (.ref ca)])) _
      refine st6 _ ?_
      refine XS.istore X6.here hx rfl (hb hby d8_12) rfl (l' := #[oa ca, oi 0, oi 2, oa b1, oi 0, .unset]) rfl ?_
      refine XS.iload X6.here hx rfl (hb hby d8_14) rfl  ?_
      refine XS.iloadN X6.here hx rfl (hb hby d8_16) rfl  ?_
      refine XS.icmpNo X6.here hx rfl (hb hby d8_17) rfl (feq (by decide)).1 ?_
      refine XS.aloadN X6.here hx rfl (hb hby d8_20) rfl rfl ?_
      refine XS.iloadN X6.here hx rfl (hb hby d8_21) rfl  ?_
      refine XS.iloadN X6.here hx rfl (hb hby d8_22) rfl  ?_
      show Steps _ _ _ (T6.setTop (mkF m 23 #[oa ca, oi 0, oi 2, oa b1, oi 0, .unset] [(.int 2), (.int 0), (.ref ca)])) _
      refine st11 _ ?_
      refine XS.astore X11.here hx rfl (hb hby d8_26) rfl rfl (l' := #[oa ca, oi 0, oi 2, oa b1, oi 0, oa vb_12]) rfl ?_
      refine XS.aload X11.here hx rfl (hb hby d8_28) rfl rfl ?_
      refine XS.iload X11.here hx rfl (hb hby d8_30) rfl  ?_
      refine st18 _ ?_
      refine XS.sipush X18.here hx rfl (hb hby d8_35) ?_
      refine XS.icmpYes X18.here hx rfl (pc0 := 38) (pc' := 54) rfl (hb hby d8_38) rfl (tlt h0x).2.2.1 (by decide) (by decide) ?_
      refine XS.aload X18.here hx rfl (hb hby d8_54) rfl rfl ?_
      show Steps _ _ _ (T18.setTop (mkF m 56 #[oa ca, oi 0, oi 2, oa b1, oi 0, oa vb_12] [(.ref vb_12)])) _
      jvm_step X18.here [X18.here.top, hx, (hb hby d8_56), X18.method', Bd.returns, Value.isRef, FieldType.isReference]
      first | (intro acts; rw [hrZ _ acts rfl rfl rfl]) | rw [hrZ _ _ rfl rfl rfl]
      exact Steps.refl _
    · show Q8U Z ca kq u0 u1 h0 n0 _ T18.heap _
      rw [e18]
      exact ⟨vb_12, kb_13, rfl, N18, K15, u11_0, sz_vb_12, f11_0⟩
  ·  -- b
    have h1x : (255 : Int32) < u1 := own_u1 hun h0x
    obtain ⟨T19, h19, k19, X19, e19, E19, A19, st19⟩ := newP X0 hx hZ (ow hw 15 rfl) e0 (g := (mkF m 1 #[oa ca, oi 0, oi 2, .unset, .unset, .unset] [(.int 2)])) rfl (hb hby d8_1) rfl (by decide) (cap := 2) (by decide) (by decide) (by decide) (by decide)
    obtain ⟨b19, g19⟩ : ∃ z, z = h0.size := ⟨_, rfl⟩
    rw [← g19] at A19 st19
    have ne20 := own_nb Vc.lt g19
    have gn_b19 : n0 ≤ b19 := Nat.le_trans Z0 (Nat.le_of_eq g19.symm)
    have sz_b19 : h0.size ≤ b19 := Nat.le_trans (Keep.refl h0 []).1 (Nat.le_of_eq g19.symm)
    have Z21 : n0 ≤ h19.size := Nat.le_trans Z0 E19.1
    have K22 : Keep h0 h19 [] := (Keep.refl h0 []).ext E19
    have V19 : Arv Z h19 b19 k19 .byte (2 : Int32) [(.int 0), (.int 0)] (.int 0) := (Arv.new A19 (by decide)).pad (pad_rep [] (.int 0) 2)
    have fa23 := (Vc.ext E19)
    obtain ⟨_, _, ⟨T24, L24, k24, n24⟩, -, X24, ⟨Lc24, hQ24, l24, y24, z24⟩, st24⟩ := Jvm.LawKit.callS X19 hx (y := oM21) hown (mvT hZ (ow hw 39 rfl)) (mvT hZ (ow hw 40 rfl)) (mvT hZ (ow hw 37 rfl)) (mvT hZ (ow hw 41 rfl)) (by decide) (backOf (W := 0) (rm9b l Z a0 hw [] ca b19 kq k19 u0 u1 h19 n0 Z21 fa23 V19 ne20 gn_b19 (by first | assumption | decide | omega) (by first | assumption | decide | omega)) hZ (ow hw 41 rfl) (ow hw 37 rfl) (by decide) (by decide)) (g := (mkF m 9 #[oa ca, oi 0, oi 2, oa b19, .unset, .unset] [(.int 2), (.int 0), (.ref b19), (.int 0), (.ref ca)])) rfl (by rw [hml]; rfl) (argsL := [(.ref ca), (.int 0), (.ref b19), (.int 0), (.int 2)]) (rest := []) (lenOf pd16 rfl) rfl (Nat.le_of_eq rfl) (hb hby d8_9) (fun _ _ => ⟨rfl, e19, (by decide : 1 + 0 ≤ _), (by decide : 2 + 0 ≤ _)⟩)
    dsimp only [Pt.U, Pt.locs, Pt.cells, Pt.slots] at X24 l24 y24 z24 st24 hQ24
    subst l24 y24 z24
    obtain ⟨rfl, N24q, K24⟩ := hQ24
    have N24 := Fr.app N0 N24q
    have Z25 : n0 ≤ T24.heap.size := Nat.le_trans Z21 K24.1
    have K26 : Keep h0 T24.heap [] := K22.trans K24 (allS (P := fun x => x ∈ _ ∨ _) (Or.inr sz_b19) all0)
    have fa27 := (fa23.keep K24 (ninS ne20 nin0))
    have fa28 := ((Ox.ext E19).keep K24 (allS (P := fun x => n0 ≤ x) gn_b19 all0))
    obtain ⟨_, _, ⟨T29, L29, k29, n29⟩, -, X29, ⟨Lc29, hQ29, l29, y29, z29⟩, st29⟩ := Jvm.LawKit.callS X24 hx (y := oM20) hown (mvT hZ (ow hw 215 rfl)) (mvT hZ (ow hw 216 rfl)) (mvT hZ (ow hw 37 rfl)) (mvT hZ (ow hw 217 rfl)) (by decide) (backOf (W := 0) (rm42 l Z a0 hw [] ca kq u0 u1 T24.heap n0 Z25 fa27 fa28 Ua Uh Ul) hZ (ow hw 217 rfl) (ow hw 37 rfl) (by decide) (by decide)) (g := (mkF m 23 #[oa ca, oi 0, oi 2, oa b19, oi 1, .unset] [(.int 2), (.int 0), (.ref ca)])) rfl (by rw [hml]; rfl) (argsL := [(.ref ca), (.int 0), (.int 2)]) (rest := []) (lenOf pd17 rfl) rfl (Nat.le_of_eq rfl) (hb hby d8_23) (fun _ _ => ⟨rfl, rfl, (by decide : 1 + 1 ≤ _), (by decide : 2 + 4 ≤ _)⟩)
    dsimp only [Pt.U, Pt.locs, Pt.cells, Pt.slots] at X29 l29 y29 z29 st29 hQ29
    subst l29 y29 z29
    obtain ⟨vb_30, kb_31, rfl, N29q, K29, u29_0, u29_1, f29_0⟩ := hQ29
    have N29 := Fr.app N24 N29q
    have Z32 : n0 ≤ T29.heap.size := Nat.le_trans Z25 K29.1
    have K33 : Keep h0 T29.heap [] := K26.trans K29 all0
    have ne34 := own_nc fa27.lt u29_1
    have sz_vb_30 : h0.size ≤ vb_30 := Nat.le_trans K26.1 u29_1
    have fa35 := (fa28.keep K29 all0)
    obtain ⟨_, _, ⟨T36, L36, k36, n36⟩, -, X36, ⟨Lc36, hQ36, l36, y36, z36⟩, st36⟩ := Jvm.LawKit.callS X29 hx (y := oM9) hown (mvT hZ (ow hw 225 rfl)) (mvT hZ (ow hw 226 rfl)) (mvT hZ (ow hw 37 rfl)) (mvT hZ (ow hw 227 rfl)) (by decide) (backOf (W := 0) (rm45 l Z a0 hw [] vb_30 (1 : Int32) kb_31 (4 : Int32) [u0, u1] u1 T29.heap n0 Z32 f29_0 fa35 Ua Uh Ul hc1 rfl (by first | assumption | decide | omega) (by first | assumption | decide | omega)) hZ (ow hw 227 rfl) (ow hw 37 rfl) (by decide) (by decide)) (g := (mkF m 32 #[oa ca, oi 0, oi 2, oa b19, oi 1, oa vb_30] [(.int 1), (.ref vb_30)])) rfl (by rw [hml]; rfl) (argsL := [(.ref vb_30), (.int 1)]) (rest := []) (lenOf pd10 rfl) rfl (Nat.le_of_eq rfl) (hb hby d8_32) (fun _ _ => ⟨rfl, rfl, (by decide : 2 + 0 ≤ _), (by decide : 6 + 0 ≤ _)⟩)
    dsimp only [Pt.U, Pt.locs, Pt.cells, Pt.slots] at X36 l36 y36 z36 st36 hQ36
    subst l36 y36 z36
    obtain ⟨rfl, N36q, e36⟩ := hQ36
    have N36 := Fr.app N29 N36q
    obtain ⟨fsZ, hrZ, hrun, hended, hW, hsame⟩ := X36.leave (v := some (.ref vb_30)) (fun h => by rw [Bd.returns] at h; cases h)
    refine ⟨_, _, pre0 _ ?_, hrun, hended, _, _, rfl, ?_, ⟨_, rfl⟩, hW, hsame.mono (by decide) (by decide)⟩
    · show Steps _ _ _ (s₁.setTop (mkF m 0 #[oa ca, oi 0, oi 2, .unset, .unset, .unset] [])) _
      refine XS.iloadN X0.here hx rfl (hb hby d8_0) rfl  ?_
      refine st19 _ ?_
      refine XS.astoreN X19.here hx rfl (hb hby d8_3) rfl rfl (l' := #[oa ca, oi 0, oi 2, oa b19, .unset, .unset]) rfl ?_
      refine XS.aloadN X19.here hx rfl (hb hby d8_4) rfl rfl ?_
      refine XS.iloadN X19.here hx rfl (hb hby d8_5) rfl  ?_
      refine XS.aloadN X19.here hx rfl (hb hby d8_6) rfl rfl ?_
      refine XS.iconst X19.here hx rfl (hb hby d8_7) ?_
      refine XS.iloadN X19.here hx rfl (hb hby d8_8) rfl  ?_
      show Steps _ _ _ (T19.setTop (mkF m 9 #[oa ca, oi 0, oi 2, oa b19, .unset, .unset] [(.int 2), (.int 0), (.ref b19), (.int 0), (.ref ca)])) _
      refine st24 _ ?_
      refine XS.istore X24.here hx rfl (hb hby d8_12) rfl (l' := #[oa ca, oi 0, oi 2, oa b19, oi 1, .unset]) rfl ?_
      refine XS.iload X24.here hx rfl (hb hby d8_14) rfl  ?_
      refine XS.iloadN X24.here hx rfl (hb hby d8_16) rfl  ?_
      refine XS.icmpNo X24.here hx rfl (hb hby d8_17) rfl (feq (by decide)).1 ?_
      refine XS.aloadN X24.here hx rfl (hb hby d8_20) rfl rfl ?_
      refine XS.iloadN X24.here hx rfl (hb hby d8_21) rfl  ?_
      refine XS.iloadN X24.here hx rfl (hb hby d8_22) rfl  ?_
      show Steps _ _ _ (T24.setTop (mkF m 23 #[oa ca, oi 0, oi 2, oa b19, oi 1, .unset] [(.int 2), (.int 0), (.ref ca)])) _
      refine st29 _ ?_
      refine XS.astore X29.here hx rfl (hb hby d8_26) rfl rfl (l' := #[oa ca, oi 0, oi 2, oa b19, oi 1, oa vb_30]) rfl ?_
      refine XS.aload X29.here hx rfl (hb hby d8_28) rfl rfl ?_
      refine XS.iload X29.here hx rfl (hb hby d8_30) rfl  ?_
      refine st36 _ ?_
      refine XS.sipush X36.here hx rfl (hb hby d8_35) ?_
      refine XS.icmpYes X36.here hx rfl (pc0 := 38) (pc' := 54) rfl (hb hby d8_38) rfl (tlt h1x).2.2.1 (by decide) (by decide) ?_
      refine XS.aload X36.here hx rfl (hb hby d8_54) rfl rfl ?_
      show Steps _ _ _ (T36.setTop (mkF m 56 #[oa ca, oi 0, oi 2, oa b19, oi 1, oa vb_30] [(.ref vb_30)])) _
      jvm_step X36.here [X36.here.top, hx, (hb hby d8_56), X36.method', Bd.returns, Value.isRef, FieldType.isReference]
      first | (intro acts; rw [hrZ _ acts rfl rfl rfl]) | rw [hrZ _ _ rfl rfl rfl]
      exact Steps.refl _
    · show Q8U Z ca kq u0 u1 h0 n0 _ T36.heap _
      rw [e36]
      exact ⟨vb_30, kb_31, rfl, N36, K33, u29_0, sz_vb_30, f29_0⟩
theorem d10_0 : decode zc23 0 = .ok (.iload_n 1, 1) := by decide +kernel
theorem d10_1 : decode zc23 1 = .ok (.aload_n 0, 1) := by decide +kernel
theorem d10_2 : decode zc23 2 = .ok (.arraylength, 1) := by decide +kernel
theorem d10_3 : decode zc23 3 = .ok (.isub, 1) := by decide +kernel
theorem d10_4 : decode zc23 4 = .ok (.bipush 31, 2) := by decide +kernel
theorem d10_6 : decode zc23 6 = .ok (.iushr, 1) := by decide +kernel
theorem d10_7 : decode zc23 7 = .ok (.i2b, 1) := by decide +kernel
theorem d10_8 : decode zc23 8 = .ok (.ireturn, 1) := by decide +kernel
theorem ef10k0 (m : MethodId) (va : Addr) : entryFrame m #[(.ref va), (.int 2)] 2 = mkF m 0 #[oa va, oi 2] [] := by first | (simp [entryFrame, mkF, argsToLocals, Value.category]; done) | rfl
def Q10k0 (Z : State) (va : Addr) (kv : ClassId) (vs : List Value) (h0 : Heap) (n0 : Nat) (v : Option Value) (h : Heap) (L : List Loc) : Prop := v = some (.int 0) ∧ Fr n0 L ∧ h = h0
theorem rm10k0 (l : Launch) (Z : State) (a0 : Array Value) (hw : ∀ d ∈ tables_1, d.before a0 Z = true) (ws : List Jvm.Cond) (va : Addr) (kv : ClassId) (vs : List Value) (h0 : Heap) (n0 : Nat) (Z0 : n0 ≤ h0.size) (Vx : Arv Z h0 va kv .byte (2 : Int32) vs (.int 0)) :
    MetFree l oM23 (head1 (Jvm.Cond.code oM23 zc23 2 (some .byte) :: ws) oR0) (fun a U => a = #[(.ref va), (.int 2)] ∧ Z.Warmed39 U.vm ∧ U.heap = h0) (fun _ _ _ _ _ => True) (fun _ U o U' => ∃ v L, o = .returned v ∧ Q10k0 Z va kv vs h0 n0 v U'.heap L ∧ FrameEnd U o U' L oR0.cells oR0.slots) := by
  refine MetFree.of_bodySF (plainFor_of_name pn1) hisR ?_
  intro p e s m args below meth c s₁ Bd hml0 hP hK
  obtain ⟨rfl, hZ, hh⟩ := hP
  have hx := Bd.exec
  have hby := Bd.bytes
  have hml : c.maxLocals = 2 := hml0
  have hown : s.vm.findClass o6 = some m.cls := findClass_of_methodNamed Bd.named
  have X0 : Stand p l e oR0 s m #[(.ref va), (.int 2)] below meth c s₁ [] 0 0 := Stand.of_body Bd
  have e0 : s₁.heap = h0 := by rw [← hh, Bd.state]; rfl
  have N0 := Fr.nil n0
  have pre0 := own_pre (p := p) (e := e) (below := below) (s₁ := s₁) (ef10k0 m va)
  obtain ⟨c1, Arc1, -, Sc1, Mc1, -, -⟩ := id Vx
  obtain ⟨fsZ, hrZ, hrun, hended, hW, hsame⟩ := X0.leave (v := some (.int 0)) (fun h => by rw [Bd.returns] at h; cases h)
  refine ⟨_, _, pre0 _ ?_, hrun, hended, _, _, rfl, ?_, ⟨_, rfl⟩, hW, hsame.mono (by decide) (by decide)⟩
  · show Steps _ _ _ (s₁.setTop (mkF m 0 #[oa va, oi 2] [])) _
    refine XS.iloadN X0.here hx rfl (hb hby d10_0) rfl  ?_
    refine XS.aloadN X0.here hx rfl (hb hby d10_1) rfl rfl ?_
    show Steps _ _ _ (s₁.setTop (mkF m 2 #[oa va, oi 2] [(.ref va), (.int 2)])) _
    refine X0.arraylength hx (by rw [e0]; exact Arc1.1) (State.isArrayOf_alike hZ.alike Arc1.2.1) (g := (mkF m 2 #[oa va, oi 2] [(.ref va), (.int 2)])) rfl rfl (hb hby d10_2) _ ?_
    rw [len_of Sc1 Mc1]
    show Steps _ _ _ (s₁.setTop (mkF m 3 #[oa va, oi 2] [(.int 2), (.int 2)])) _
    refine XS.isub X0.here hx rfl (hb hby d10_3) rfl ?_
    show Steps _ _ _ (s₁.setTop (mkF m 4 #[oa va, oi 2] [(.int ((2 : Int32) - (2 : Int32)))])) _
    rw [show ((2 : Int32) - (2 : Int32)) = (0 : Int32) from by decide]
    show Steps _ _ _ (s₁.setTop (mkF m 4 #[oa va, oi 2] [(.int 0)])) _
    refine XS.bipush X0.here hx rfl (hb hby d10_4) ?_
    refine XS.iushr X0.here hx rfl (hb hby d10_6) rfl ?_
    show Steps _ _ _ (s₁.setTop (mkF m 7 #[oa va, oi 2] [(.int (((0 : Int32).toUInt32 >>> ((31 : Int32) &&& 31).toUInt32).toInt32))])) _
    rw [show (((0 : Int32).toUInt32 >>> ((31 : Int32) &&& 31).toUInt32).toInt32) = (0 : Int32) from by decide]
    show Steps _ _ _ (s₁.setTop (mkF m 7 #[oa va, oi 2] [(.int 0)])) _
    refine XS.i2b X0.here hx rfl (hb hby d10_7) rfl ?_
    show Steps _ _ _ (s₁.setTop (mkF m 8 #[oa va, oi 2] [(.int ((0 : Int32).toInt8.toInt32))])) _
    rw [show ((0 : Int32).toInt8.toInt32) = (0 : Int32) from by decide]
    show Steps _ _ _ (s₁.setTop (mkF m 8 #[oa va, oi 2] [(.int 0)])) _
    exact retN X0 hx (t := .byte) Bd.returns (by simp) (hb hby d10_8) hrZ
  · show Q10k0 Z va kv vs h0 n0 _ s₁.heap _
    rw [e0]
    exact ⟨rfl, N0, rfl⟩
theorem ef10k1 (m : MethodId) (va : Addr) : entryFrame m #[(.ref va), (.int 2)] 2 = mkF m 0 #[oa va, oi 2] [] := by first | (simp [entryFrame, mkF, argsToLocals, Value.category]; done) | rfl
def Q10k1 (Z : State) (va : Addr) (kv : ClassId) (vs : List Value) (h0 : Heap) (n0 : Nat) (v : Option Value) (h : Heap) (L : List Loc) : Prop := v = some (.int 1) ∧ Fr n0 L ∧ h = h0
theorem rm10k1 (l : Launch) (Z : State) (a0 : Array Value) (hw : ∀ d ∈ tables_1, d.before a0 Z = true) (ws : List Jvm.Cond) (va : Addr) (kv : ClassId) (vs : List Value) (h0 : Heap) (n0 : Nat) (Z0 : n0 ≤ h0.size) (Vx : Arv Z h0 va kv .byte (4 : Int32) vs (.int 0)) :
    MetFree l oM23 (head1 (Jvm.Cond.code oM23 zc23 2 (some .byte) :: ws) oR0) (fun a U => a = #[(.ref va), (.int 2)] ∧ Z.Warmed39 U.vm ∧ U.heap = h0) (fun _ _ _ _ _ => True) (fun _ U o U' => ∃ v L, o = .returned v ∧ Q10k1 Z va kv vs h0 n0 v U'.heap L ∧ FrameEnd U o U' L oR0.cells oR0.slots) := by
  refine MetFree.of_bodySF (plainFor_of_name pn1) hisR ?_
  intro p e s m args below meth c s₁ Bd hml0 hP hK
  obtain ⟨rfl, hZ, hh⟩ := hP
  have hx := Bd.exec
  have hby := Bd.bytes
  have hml : c.maxLocals = 2 := hml0
  have hown : s.vm.findClass o6 = some m.cls := findClass_of_methodNamed Bd.named
  have X0 : Stand p l e oR0 s m #[(.ref va), (.int 2)] below meth c s₁ [] 0 0 := Stand.of_body Bd
  have e0 : s₁.heap = h0 := by rw [← hh, Bd.state]; rfl
  have N0 := Fr.nil n0
  have pre0 := own_pre (p := p) (e := e) (below := below) (s₁ := s₁) (ef10k1 m va)
  obtain ⟨c1, Arc1, -, Sc1, Mc1, -, -⟩ := id Vx
  obtain ⟨fsZ, hrZ, hrun, hended, hW, hsame⟩ := X0.leave (v := some (.int 1)) (fun h => by rw [Bd.returns] at h; cases h)
  refine ⟨_, _, pre0 _ ?_, hrun, hended, _, _, rfl, ?_, ⟨_, rfl⟩, hW, hsame.mono (by decide) (by decide)⟩
  · show Steps _ _ _ (s₁.setTop (mkF m 0 #[oa va, oi 2] [])) _
    refine XS.iloadN X0.here hx rfl (hb hby d10_0) rfl  ?_
    refine XS.aloadN X0.here hx rfl (hb hby d10_1) rfl rfl ?_
    show Steps _ _ _ (s₁.setTop (mkF m 2 #[oa va, oi 2] [(.ref va), (.int 2)])) _
    refine X0.arraylength hx (by rw [e0]; exact Arc1.1) (State.isArrayOf_alike hZ.alike Arc1.2.1) (g := (mkF m 2 #[oa va, oi 2] [(.ref va), (.int 2)])) rfl rfl (hb hby d10_2) _ ?_
    rw [len_of Sc1 Mc1]
    show Steps _ _ _ (s₁.setTop (mkF m 3 #[oa va, oi 2] [(.int 4), (.int 2)])) _
    refine XS.isub X0.here hx rfl (hb hby d10_3) rfl ?_
    show Steps _ _ _ (s₁.setTop (mkF m 4 #[oa va, oi 2] [(.int ((2 : Int32) - (4 : Int32)))])) _
    rw [show ((2 : Int32) - (4 : Int32)) = (-2 : Int32) from by decide]
    show Steps _ _ _ (s₁.setTop (mkF m 4 #[oa va, oi 2] [(.int (-2))])) _
    refine XS.bipush X0.here hx rfl (hb hby d10_4) ?_
    refine XS.iushr X0.here hx rfl (hb hby d10_6) rfl ?_
    show Steps _ _ _ (s₁.setTop (mkF m 7 #[oa va, oi 2] [(.int (((-2 : Int32).toUInt32 >>> ((31 : Int32) &&& 31).toUInt32).toInt32))])) _
    rw [show (((-2 : Int32).toUInt32 >>> ((31 : Int32) &&& 31).toUInt32).toInt32) = (1 : Int32) from by decide]
    show Steps _ _ _ (s₁.setTop (mkF m 7 #[oa va, oi 2] [(.int 1)])) _
    refine XS.i2b X0.here hx rfl (hb hby d10_7) rfl ?_
    show Steps _ _ _ (s₁.setTop (mkF m 8 #[oa va, oi 2] [(.int ((1 : Int32).toInt8.toInt32))])) _
    rw [show ((1 : Int32).toInt8.toInt32) = (1 : Int32) from by decide]
    show Steps _ _ _ (s₁.setTop (mkF m 8 #[oa va, oi 2] [(.int 1)])) _
    exact retN X0 hx (t := .byte) Bd.returns (by simp) (hb hby d10_8) hrZ
  · show Q10k1 Z va kv vs h0 n0 _ s₁.heap _
    rw [e0]
    exact ⟨rfl, N0, rfl⟩
theorem d4_0 : decode zc24 0 = .ok (.aload_n 0, 1) := by decide +kernel
theorem d4_1 : decode zc24 1 = .ok (.invokespecial 1, 3) := by decide +kernel
theorem d4_4 : decode zc24 4 = .ok (.aload_n 0, 1) := by decide +kernel
theorem d4_5 : decode zc24 5 = .ok (.aload_n 1, 1) := by decide +kernel
theorem d4_6 : decode zc24 6 = .ok (.putfield 9, 3) := by decide +kernel
theorem d4_9 : decode zc24 9 = .ok (.aload_n 0, 1) := by decide +kernel
theorem d4_10 : decode zc24 10 = .ok (.iload_n 2, 1) := by decide +kernel
theorem d4_11 : decode zc24 11 = .ok (.putfield 15, 3) := by decide +kernel
theorem d4_14 : decode zc24 14 = .ok (.return_, 1) := by decide +kernel
theorem ef4k0 (m : MethodId) (sa : Addr) (vb : Addr) : entryFrame m #[(.ref sa), (.ref vb), (.int 0)] 3 = mkF m 0 #[oa sa, oa vb, oi 0] [] := by first | (simp [entryFrame, mkF, argsToLocals, Value.category]; done) | rfl
def Q4k0 (Z : State) (sa : Addr) (vb : Addr) (w1 : Value) (w2 : Value) (h0 : Heap) (n0 : Nat) (v : Option Value) (h : Heap) (L : List Loc) : Prop := v = none ∧ Fr n0 L ∧ Keep h0 h [sa] ∧ Exa Z h sa oS ∧ Fld Z h sa oS "coder" "B" (.int 0) ∧ Fld Z h sa oS "value" "[B" (.ref vb)
theorem rm4k0 (l : Launch) (Z : State) (a0 : Array Value) (hw : ∀ d ∈ tables_1, d.before a0 Z = true) (ws : List Jvm.Cond) (sa : Addr) (vb : Addr) (w1 : Value) (w2 : Value) (h0 : Heap) (n0 : Nat) (Z0 : n0 ≤ h0.size) (Es : Exa Z h0 sa oS) (Sc : Fld Z h0 sa oS "coder" "B" w1) (Sv : Fld Z h0 sa oS "value" "[B" w2) (gs : n0 ≤ sa) :
    MetFree l oM24 (head1 (Jvm.Cond.code oM24 zc24 3 none :: ws) oR15) (fun a U => a = #[(.ref sa), (.ref vb), (.int 0)] ∧ Z.Warmed39 U.vm ∧ U.heap = h0) (fun _ _ _ _ _ => True) (fun _ U o U' => ∃ v L, o = .returned v ∧ Q4k0 Z sa vb w1 w2 h0 n0 v U'.heap L ∧ FrameEnd U o U' L oR15.cells oR15.slots) := by
  refine MetFree.of_bodySF (plainFor_of_name pn3) hisR ?_
  intro p e s m args below meth c s₁ Bd hml0 hP hK
  obtain ⟨rfl, hZ, hh⟩ := hP
  have hx := Bd.exec
  have hby := Bd.bytes
  have hml : c.maxLocals = 3 := hml0
  have hown : s.vm.findClass oS = some m.cls := findClass_of_methodNamed Bd.named
  have hnm := (name_of_methodNamed Bd.named Bd.method).1
  have X0 : Stand p l e oR15 s m #[(.ref sa), (.ref vb), (.int 0)] below meth c s₁ [] 0 0 := Stand.of_body Bd
  have e0 : s₁.heap = h0 := by rw [← hh, Bd.state]; rfl
  have N0 := Fr.nil n0
  have pre0 := own_pre (p := p) (e := e) (below := below) (s₁ := s₁) (ef4k0 m sa vb)
  obtain ⟨T1, X1, e1, st1⟩ := initO X0 hx hZ hown (ow hw 20 rfl) (ow hw 21 rfl) (ow hw 22 rfl) e0 (g := (mkF m 1 #[oa sa, oa vb, oi 0] [(.ref sa)])) rfl (by rw [hml]; rfl) rfl (hb hby d4_1) (by decide) (W := 0) (Nat.le_of_eq rfl) (by decide)
  obtain ⟨T2, h2, X2, e2, W2, st2⟩ := putF X1 hx hZ hown (host := "") (Or.inl (ow hw 23 rfl)) Via.refl e1 Sv Es (Or.inr ⟨(ow hw 24 rfl), rfl, hnm⟩) (ow hw 11 rfl) (ty := (.array .byte)) (by decide) rfl rfl (g := (mkF m 6 #[oa sa, oa vb, oi 0] [(.ref vb), (.ref sa)])) rfl rfl (hb hby d4_6)
  have fw2 : Fld Z h2 sa oS "value" "[B" (.ref vb) := Sv.same W2
  have Z3 : n0 ≤ h2.size := Nat.le_trans Z0 (Nat.le_of_eq W2.size.symm)
  have K4 : Keep h0 h2 [sa] := (Keep.refl h0 [sa]).wr W2 (Or.inl (List.mem_of_getElem? (i := 0) rfl))
  have N2 := Fr.snoc X2 N0 gs
  have fa5 := (Sc.other W2 (Or.inr (slot_ne (Or.inr (ow hw 26 rfl)) (Or.inr (ow hw 24 rfl)) (by decide) (t := .byte) (t' := (.array .byte)) (by decide) (by decide))))
  have fa6 := (Es.wr W2)
  obtain ⟨T7, h7, X7, e7, W7, st7⟩ := putFN X2 hx hZ hown (ow hw 25 rfl) Via.refl e2 fa5 fa6 (Or.inr ⟨(ow hw 26 rfl), rfl, hnm⟩) (ow hw 11 rfl) (ty := .byte) (v' := (.int 0)) (by decide) rfl (by decide) (g := (mkF m 11 #[oa sa, oa vb, oi 0] [(.int 0), (.ref sa)])) rfl rfl (hb hby d4_11)
  have fw7 : Fld Z h7 sa oS "coder" "B" (.int 0) := fa5.same W7
  have Z8 : n0 ≤ h7.size := Nat.le_trans Z3 (Nat.le_of_eq W7.size.symm)
  have K9 : Keep h0 h7 [sa] := K4.wr W7 (Or.inl (List.mem_of_getElem? (i := 0) rfl))
  have N7 := Fr.snoc X7 N2 gs
  obtain ⟨fsZ, hrZ, hrun, hended, hW, hsame⟩ := X7.leave (v := none) (fun _ => rfl)
  have fa10 := (fa6.wr W7)
  have fa11 := (fw2.other W7 (Or.inr (slot_ne (Or.inr (ow hw 24 rfl)) (Or.inr (ow hw 26 rfl)) (by decide) (t := (.array .byte)) (t' := .byte) (by decide) (by decide))))
  refine ⟨_, _, pre0 _ ?_, hrun, hended, _, _, rfl, ?_, ⟨_, rfl⟩, hW, hsame.mono (by decide) (by decide)⟩
  · show Steps _ _ _ (s₁.setTop (mkF m 0 #[oa sa, oa vb, oi 0] [])) _
    refine XS.aloadN X0.here hx rfl (hb hby d4_0) rfl rfl ?_
    refine st1 _ ?_
    refine XS.aloadN X1.here hx rfl (hb hby d4_4) rfl rfl ?_
    refine XS.aloadN X1.here hx rfl (hb hby d4_5) rfl rfl ?_
    refine st2 _ ?_
    refine XS.aloadN X2.here hx rfl (hb hby d4_9) rfl rfl ?_
    refine XS.iloadN X2.here hx rfl (hb hby d4_10) rfl  ?_
    refine st7 _ ?_
    show Steps _ _ _ (T7.setTop (mkF m 14 #[oa sa, oa vb, oi 0] [])) _
    exact X7.returnOut hx Bd.returns (hb hby d4_14) hrZ
  · show Q4k0 Z sa vb w1 w2 h0 n0 _ T7.heap _
    rw [e7]
    exact ⟨rfl, N7, K9, fa10, fw7, fa11⟩
theorem ef4k1 (m : MethodId) (sa : Addr) (vb : Addr) : entryFrame m #[(.ref sa), (.ref vb), (.int 1)] 3 = mkF m 0 #[oa sa, oa vb, oi 1] [] := by first | (simp [entryFrame, mkF, argsToLocals, Value.category]; done) | rfl
def Q4k1 (Z : State) (sa : Addr) (vb : Addr) (w1 : Value) (w2 : Value) (h0 : Heap) (n0 : Nat) (v : Option Value) (h : Heap) (L : List Loc) : Prop := v = none ∧ Fr n0 L ∧ Keep h0 h [sa] ∧ Exa Z h sa oS ∧ Fld Z h sa oS "coder" "B" (.int 1) ∧ Fld Z h sa oS "value" "[B" (.ref vb)
theorem rm4k1 (l : Launch) (Z : State) (a0 : Array Value) (hw : ∀ d ∈ tables_1, d.before a0 Z = true) (ws : List Jvm.Cond) (sa : Addr) (vb : Addr) (w1 : Value) (w2 : Value) (h0 : Heap) (n0 : Nat) (Z0 : n0 ≤ h0.size) (Es : Exa Z h0 sa oS) (Sc : Fld Z h0 sa oS "coder" "B" w1) (Sv : Fld Z h0 sa oS "value" "[B" w2) (gs : n0 ≤ sa) :
    MetFree l oM24 (head1 (Jvm.Cond.code oM24 zc24 3 none :: ws) oR15) (fun a U => a = #[(.ref sa), (.ref vb), (.int 1)] ∧ Z.Warmed39 U.vm ∧ U.heap = h0) (fun _ _ _ _ _ => True) (fun _ U o U' => ∃ v L, o = .returned v ∧ Q4k1 Z sa vb w1 w2 h0 n0 v U'.heap L ∧ FrameEnd U o U' L oR15.cells oR15.slots) := by
  refine MetFree.of_bodySF (plainFor_of_name pn3) hisR ?_
  intro p e s m args below meth c s₁ Bd hml0 hP hK
  obtain ⟨rfl, hZ, hh⟩ := hP
  have hx := Bd.exec
  have hby := Bd.bytes
  have hml : c.maxLocals = 3 := hml0
  have hown : s.vm.findClass oS = some m.cls := findClass_of_methodNamed Bd.named
  have hnm := (name_of_methodNamed Bd.named Bd.method).1
  have X0 : Stand p l e oR15 s m #[(.ref sa), (.ref vb), (.int 1)] below meth c s₁ [] 0 0 := Stand.of_body Bd
  have e0 : s₁.heap = h0 := by rw [← hh, Bd.state]; rfl
  have N0 := Fr.nil n0
  have pre0 := own_pre (p := p) (e := e) (below := below) (s₁ := s₁) (ef4k1 m sa vb)
  obtain ⟨T1, X1, e1, st1⟩ := initO X0 hx hZ hown (ow hw 20 rfl) (ow hw 21 rfl) (ow hw 22 rfl) e0 (g := (mkF m 1 #[oa sa, oa vb, oi 1] [(.ref sa)])) rfl (by rw [hml]; rfl) rfl (hb hby d4_1) (by decide) (W := 0) (Nat.le_of_eq rfl) (by decide)
  obtain ⟨T2, h2, X2, e2, W2, st2⟩ := putF X1 hx hZ hown (host := "") (Or.inl (ow hw 23 rfl)) Via.refl e1 Sv Es (Or.inr ⟨(ow hw 24 rfl), rfl, hnm⟩) (ow hw 11 rfl) (ty := (.array .byte)) (by decide) rfl rfl (g := (mkF m 6 #[oa sa, oa vb, oi 1] [(.ref vb), (.ref sa)])) rfl rfl (hb hby d4_6)
  have fw2 : Fld Z h2 sa oS "value" "[B" (.ref vb) := Sv.same W2
  have Z3 : n0 ≤ h2.size := Nat.le_trans Z0 (Nat.le_of_eq W2.size.symm)
  have K4 : Keep h0 h2 [sa] := (Keep.refl h0 [sa]).wr W2 (Or.inl (List.mem_of_getElem? (i := 0) rfl))
  have N2 := Fr.snoc X2 N0 gs
  have fa5 := (Sc.other W2 (Or.inr (slot_ne (Or.inr (ow hw 26 rfl)) (Or.inr (ow hw 24 rfl)) (by decide) (t := .byte) (t' := (.array .byte)) (by decide) (by decide))))
  have fa6 := (Es.wr W2)
  obtain ⟨T7, h7, X7, e7, W7, st7⟩ := putFN X2 hx hZ hown (ow hw 25 rfl) Via.refl e2 fa5 fa6 (Or.inr ⟨(ow hw 26 rfl), rfl, hnm⟩) (ow hw 11 rfl) (ty := .byte) (v' := (.int 1)) (by decide) rfl (by decide) (g := (mkF m 11 #[oa sa, oa vb, oi 1] [(.int 1), (.ref sa)])) rfl rfl (hb hby d4_11)
  have fw7 : Fld Z h7 sa oS "coder" "B" (.int 1) := fa5.same W7
  have Z8 : n0 ≤ h7.size := Nat.le_trans Z3 (Nat.le_of_eq W7.size.symm)
  have K9 : Keep h0 h7 [sa] := K4.wr W7 (Or.inl (List.mem_of_getElem? (i := 0) rfl))
  have N7 := Fr.snoc X7 N2 gs
  obtain ⟨fsZ, hrZ, hrun, hended, hW, hsame⟩ := X7.leave (v := none) (fun _ => rfl)
  have fa10 := (fa6.wr W7)
  have fa11 := (fw2.other W7 (Or.inr (slot_ne (Or.inr (ow hw 24 rfl)) (Or.inr (ow hw 26 rfl)) (by decide) (t := (.array .byte)) (t' := .byte) (by decide) (by decide))))
  refine ⟨_, _, pre0 _ ?_, hrun, hended, _, _, rfl, ?_, ⟨_, rfl⟩, hW, hsame.mono (by decide) (by decide)⟩
  · show Steps _ _ _ (s₁.setTop (mkF m 0 #[oa sa, oa vb, oi 1] [])) _
    refine XS.aloadN X0.here hx rfl (hb hby d4_0) rfl rfl ?_
    refine st1 _ ?_
    refine XS.aloadN X1.here hx rfl (hb hby d4_4) rfl rfl ?_
    refine XS.aloadN X1.here hx rfl (hb hby d4_5) rfl rfl ?_
    refine st2 _ ?_
    refine XS.aloadN X2.here hx rfl (hb hby d4_9) rfl rfl ?_
    refine XS.iloadN X2.here hx rfl (hb hby d4_10) rfl  ?_
    refine st7 _ ?_
    show Steps _ _ _ (T7.setTop (mkF m 14 #[oa sa, oa vb, oi 1] [])) _
    exact X7.returnOut hx Bd.returns (hb hby d4_14) hrZ
  · show Q4k1 Z sa vb w1 w2 h0 n0 _ T7.heap _
    rw [e7]
    exact ⟨rfl, N7, K9, fa10, fw7, fa11⟩
theorem d1_0 : decode zc25 0 = .ok (.getstatic 38, 3) := by decide +kernel
theorem d1_3 : decode zc25 3 = .ok (.ifCond .eq 23, 3) := by decide +kernel
theorem d1_6 : decode zc25 6 = .ok (.iload_n 0, 1) := by decide +kernel
theorem d1_7 : decode zc25 7 = .ok (.invokestatic 1015, 3) := by decide +kernel
theorem pd18 : parseMethodDescriptor "(C)Z" = some ⟨[.char], some .boolean⟩ := by decide +kernel
theorem d1_10 : decode zc25 10 = .ok (.ifCond .eq 16, 3) := by decide +kernel
theorem d1_13 : decode zc25 13 = .ok (.new 10, 3) := by decide +kernel
theorem d1_16 : decode zc25 16 = .ok (.dup, 1) := by decide +kernel
theorem d1_17 : decode zc25 17 = .ok (.iload_n 0, 1) := by decide +kernel
theorem d1_18 : decode zc25 18 = .ok (.invokestatic 1018, 3) := by decide +kernel
theorem pd19 : parseMethodDescriptor "(C)[B" = some ⟨[.char], some (.array .byte)⟩ := by decide +kernel
theorem d1_21 : decode zc25 21 = .ok (.iconst 0, 1) := by decide +kernel
theorem d1_22 : decode zc25 22 = .ok (.invokespecial 209, 3) := by decide +kernel
theorem pd20 : parseMethodDescriptor "([BB)V" = some ⟨[(.array .byte), .byte], none⟩ := by decide +kernel
theorem d1_25 : decode zc25 25 = .ok (.areturn, 1) := by decide +kernel
theorem d1_26 : decode zc25 26 = .ok (.new 10, 3) := by decide +kernel
theorem d1_29 : decode zc25 29 = .ok (.dup, 1) := by decide +kernel
theorem d1_30 : decode zc25 30 = .ok (.iload_n 0, 1) := by decide +kernel
theorem d1_31 : decode zc25 31 = .ok (.invokestatic 1021, 3) := by decide +kernel
theorem d1_34 : decode zc25 34 = .ok (.iconst 1, 1) := by decide +kernel
theorem d1_35 : decode zc25 35 = .ok (.invokespecial 209, 3) := by decide +kernel
theorem d1_38 : decode zc25 38 = .ok (.areturn, 1) := by decide +kernel
theorem ef1 (m : MethodId) (uc : Int32) : entryFrame m #[(.int uc)] 1 = mkF m 0 #[oi uc] [] := by first | (simp [entryFrame, mkF, argsToLocals, Value.category]; done) | rfl
def Q1 (Z : State) (uc : Int32) (cs : Int32) (h0 : Heap) (n0 : Nat) (v : Option Value) (h : Heap) (L : List Loc) : Prop := ∃ (sa : Addr) (vb : Addr) (kb : ClassId) (kc : Int32) (nb : Int32) (vs : List Value), v = some (.ref sa) ∧ Fr n0 L ∧ Keep h0 h [] ∧ n0 ≤ sa ∧ h0.size ≤ sa ∧ n0 ≤ vb ∧ h0.size ≤ vb ∧ own_enc [uc] kc nb vs ∧ Exa Z h sa oS ∧ Fld Z h sa oS "coder" "B" (.int kc) ∧ Fld Z h sa oS "value" "[B" (.ref vb) ∧ Arv Z h vb kb .byte nb vs (.int 0)
theorem rm1 (l : Launch) (Z : State) (a0 : Array Value) (hw : ∀ d ∈ tables_1, d.before a0 Z = true) (ws : List Jvm.Cond) (uc : Int32) (cs : Int32) (h0 : Heap) (n0 : Nat) (Z0 : n0 ≤ h0.size) (Cs : Sta Z Z.heap oS "COMPACT_STRINGS" "Z" (.int cs)) (hcs : ¬ (cs = (0 : Int32))) (Ox : Old Z n0 h0) (Ua : Sta Z Z.heap o6 "$assertionsDisabled" "Z" (.int 1)) (Uh : Sta Z Z.heap o6 "HI_BYTE_SHIFT" "I" (.int 0)) (Ul : Sta Z Z.heap o6 "LO_BYTE_SHIFT" "I" (.int 8)) (hch : own_ch uc) :
    MetFree l oM25 (head1 (Jvm.Cond.code oM25 zc25 1 (some (.object oS)) :: ws) oR16) (fun a U => a = #[(.int uc)] ∧ Z.Warmed39 U.vm ∧ U.heap = h0) (fun _ _ _ _ _ => True) (fun _ U o U' => ∃ v L, o = .returned v ∧ Q1 Z uc cs h0 n0 v U'.heap L ∧ FrameEnd U o U' L oR16.cells oR16.slots) := by
  refine MetFree.of_bodySF (plainFor_of_name pn3) hisR ?_
  intro p e s m args below meth c s₁ Bd hml0 hP hK
  obtain ⟨rfl, hZ, hh⟩ := hP
  have hx := Bd.exec
  have hby := Bd.bytes
  have hml : c.maxLocals = 1 := hml0
  have hown : s.vm.findClass oS = some m.cls := findClass_of_methodNamed Bd.named
  have X0 : Stand p l e oR16 s m #[(.int uc)] below meth c s₁ [] 0 0 := Stand.of_body Bd
  have e0 : s₁.heap = h0 := by rw [← hh, Bd.state]; rfl
  have N0 := Fr.nil n0
  have pre0 := own_pre (p := p) (e := e) (below := below) (s₁ := s₁) (ef1 m uc)
  obtain ⟨T1, X1, e1, st1⟩ := getS2 X0 hx hZ hown (host := "") (Or.inl (ow hw 5 rfl)) Via.refl e0 (Cs.ext Ox.2) (g := (mkF m 0 #[oi uc] [])) rfl (hb hby d1_0)
  obtain ⟨_, _, ⟨T2, L2, k2, n2⟩, -, X2, ⟨Lc2, hQ2, l2, y2, z2⟩, st2⟩ := Jvm.LawKit.callS X1 hx (y := oM0) hown (mvT hZ (ow hw 6 rfl)) (mvT hZ (ow hw 7 rfl)) (mvT hZ (ow hw 8 rfl)) (mvT hZ (ow hw 9 rfl)) (by decide) (backOf (W := 0) (rm2 l Z a0 hw [] uc h0 n0 Z0 ) hZ (ow hw 9 rfl) (ow hw 8 rfl) (by decide) (by decide)) (g := (mkF m 7 #[oi uc] [(.int uc)])) rfl (by rw [hml]; rfl) (argsL := [(.int uc)]) (rest := []) (lenOf pd18 rfl) rfl (Nat.le_of_eq rfl) (hb hby d1_7) (fun _ _ => ⟨rfl, e1, (by decide : 0 + 0 ≤ _), (by decide : 0 + 0 ≤ _)⟩)
  dsimp only [Pt.U, Pt.locs, Pt.cells, Pt.slots] at X2 l2 y2 z2 st2 hQ2
  subst l2 y2 z2
  obtain ⟨rfl, N2q, e2⟩ := hQ2
  have N2 := Fr.app N0 N2q
  have pre3 : own_P p e below (T2.setTop (mkF m 10 #[oi uc] [(.int (own_b (¬ ((255 : Int32) < uc))))])) (s₁.setTop (entryFrame m #[(.int uc)] 1)) := fun tZ kZ => pre0 tZ (by
    show Steps _ _ _ (s₁.setTop (mkF m 0 #[oi uc] [])) _
    refine st1 _ ?_
    refine XS.ifNo X1.here hx rfl (hb hby d1_3) rfl ((if0 _ _).trans (feq hcs).1) ?_
    refine XS.iloadN X1.here hx rfl (hb hby d1_6) rfl  ?_
    refine st2 _ ?_
    exact kZ)
  by_cases hc4 : (¬ ((255 : Int32) < uc))
  ·  -- yes
    obtain ⟨T5, h5, X5, e5, E5, A5, D5, -, st5⟩ := newO X2 hx hZ hown (ow hw 10 rfl) (ow hw 11 rfl) (ow hw 3 rfl) e2 (g := (mkF m 13 #[oi uc] [])) rfl (hb hby d1_13) (by decide) (by decide)
    obtain ⟨b5, g5⟩ : ∃ z, z = h0.size := ⟨_, rfl⟩
    rw [← g5] at A5 D5 st5
    have gn_b5 : n0 ≤ b5 := Nat.le_trans Z0 (Nat.le_of_eq g5.symm)
    have sz_b5 : h0.size ≤ b5 := Nat.le_trans (Keep.refl h0 []).1 (Nat.le_of_eq g5.symm)
    have Z6 : n0 ≤ h5.size := Nat.le_trans Z0 E5.1
    have K7 : Keep h0 h5 [] := (Keep.refl h0 []).ext E5
    have F_value_b5 : Fld Z h5 b5 oS "value" "[B" .null := D5 (Or.inr (ow hw 24 rfl)) (ty := (.array .byte)) (by decide)
    have F_coder_b5 : Fld Z h5 b5 oS "coder" "B" (.int 0) := D5 (Or.inr (ow hw 26 rfl)) (ty := .byte) (by decide)
    obtain ⟨_, _, ⟨T8, L8, k8, n8⟩, -, X8, ⟨Lc8, hQ8, l8, y8, z8⟩, st8⟩ := Jvm.LawKit.callS X5 hx (y := oM16) hown (mvT hZ (ow hw 12 rfl)) (mvT hZ (ow hw 13 rfl)) (mvT hZ (ow hw 8 rfl)) (mvT hZ (ow hw 14 rfl)) (by decide) (backOf (W := 2) (rm3 l Z a0 hw [] uc h5 n0 Z6 ) hZ (ow hw 14 rfl) (ow hw 8 rfl) (by decide) (by decide)) (g := (mkF m 18 #[oi uc] [(.int uc), (.ref b5), (.ref b5)])) rfl (by rw [hml]; rfl) (argsL := [(.int uc)]) (rest := [(.ref b5), (.ref b5)]) (lenOf pd19 rfl) rfl (Nat.le_of_eq rfl) (hb hby d1_18) (fun _ _ => ⟨rfl, e5, (by decide : 1 + 1 ≤ _), (by decide : 4 + 1 ≤ _)⟩)
    dsimp only [Pt.U, Pt.locs, Pt.cells, Pt.slots] at X8 l8 y8 z8 st8 hQ8
    subst l8 y8 z8
    obtain ⟨vb_9, kb_10, rfl, N8q, K8, u8_0, u8_1, f8_0⟩ := hQ8
    have N8 := Fr.app N2 N8q
    have Z11 : n0 ≤ T8.heap.size := Nat.le_trans Z6 K8.1
    have K12 : Keep h0 T8.heap [] := K7.trans K8 all0
    have ne13 := own_nc A5.lt u8_1
    have sz_vb_9 : h0.size ≤ vb_9 := Nat.le_trans K7.1 u8_1
    have fa14 := (A5.keep K8)
    have fa15 := (F_coder_b5.keep K8 nin0)
    have fa16 := (F_value_b5.keep K8 nin0)
    obtain ⟨_, _, ⟨T17, L17, k17, n17⟩, -, X17, ⟨Lc17, hQ17, l17, y17, z17⟩, st17⟩ := X8.specialBack hx (y := oM24) rfl hown (mvT hZ (ow hw 16 rfl)) (mvT hZ (ow hw 17 rfl)) (mvT hZ (ow hw 19 rfl)) (by decide) (backOf (W := 1) (rm4k0 l Z a0 hw [] b5 vb_9 (.int 0) .null T8.heap n0 Z11 fa14 fa15 fa16 gn_b5) hZ (ow hw 19 rfl) (ow hw 3 rfl) (by decide) (by decide)) (g := (mkF m 22 #[oi uc] [(.int 0), (.ref vb_9), (.ref b5), (.ref b5)])) rfl (by rw [hml]; rfl) (Steps.refl _) (a := b5) (argsL := [(.ref vb_9), (.int 0)]) (rest := [(.ref b5)]) (lenOf pd20 rfl) rfl (Nat.le_of_eq rfl) (hb hby d1_22) (fun _ _ => ⟨rfl, rfl, (by decide : 2 + 0 ≤ _), (by decide : 5 + 0 ≤ _)⟩)
    dsimp only [Pt.U, Pt.locs, Pt.cells, Pt.slots] at X17 l17 y17 z17 st17 hQ17
    subst l17 y17 z17
    obtain ⟨rfl, N17q, K17, f17_0, f17_1, f17_2⟩ := hQ17
    have N17 := Fr.app N8 N17q
    have Z18 : n0 ≤ T17.heap.size := Nat.le_trans Z11 K17.1
    have K19 : Keep h0 T17.heap [] := K12.trans K17 (allS (P := fun x => x ∈ _ ∨ _) (Or.inr sz_b5) all0)
    obtain ⟨fsZ, hrZ, hrun, hended, hW, hsame⟩ := X17.leave (v := some (.ref b5)) (fun h => by rw [Bd.returns] at h; cases h)
    have hqe : own_enc [uc] (0 : Int32) (1 : Int32) (own_lb [uc]) := own_enc1 hch (Or.inl ⟨hc4, rfl, rfl, rfl⟩)
    have fa20 := (f8_0.keep K17 (ninS (Ne.symm ne13) nin0))
    refine ⟨_, _, pre3 _ ?_, hrun, hended, _, _, rfl, ?_, ⟨_, rfl⟩, hW, hsame.mono (by decide) (by decide)⟩
    · show Steps _ _ _ (T2.setTop (mkF m 10 #[oi uc] [(.int (own_b (¬ ((255 : Int32) < uc))))])) _
      refine XS.ifNo X2.here hx rfl (hb hby d1_10) rfl ((if0 _ _).trans (feq (own_b_nz hc4)).1) ?_
      refine st5 _ ?_
      refine XS.dup X5.here hx rfl (hb hby d1_16) rfl rfl ?_
      refine XS.iloadN X5.here hx rfl (hb hby d1_17) rfl  ?_
      refine st8 _ ?_
      refine XS.iconst X8.here hx rfl (hb hby d1_21) ?_
      refine st17.trans ?_
      show Steps _ _ _ (T17.setTop (mkF m 25 #[oi uc] [(.ref b5)])) _
      jvm_step X17.here [X17.here.top, hx, (hb hby d1_25), X17.method', Bd.returns, Value.isRef, FieldType.isReference]
      first | (intro acts; rw [hrZ _ acts rfl rfl rfl]) | rw [hrZ _ _ rfl rfl rfl]
      exact Steps.refl _
    · show Q1 Z uc cs h0 n0 _ T17.heap _
      exact ⟨b5, vb_9, kb_10, (0 : Int32), (1 : Int32), (own_lb [uc]), rfl, N17, K19, gn_b5, sz_b5, u8_0, sz_vb_9, (by first | assumption | exact own_b01 _ | decide | omega | exact Or.inl rfl | exact Or.inr (by assumption)), f17_0, f17_1, f17_2, fa20⟩
  ·  -- no
    obtain ⟨T21, h21, X21, e21, E21, A21, D21, -, st21⟩ := newO X2 hx hZ hown (ow hw 10 rfl) (ow hw 11 rfl) (ow hw 3 rfl) e2 (g := (mkF m 26 #[oi uc] [])) rfl (hb hby d1_26) (by decide) (by decide)
    obtain ⟨b21, g21⟩ : ∃ z, z = h0.size := ⟨_, rfl⟩
    rw [← g21] at A21 D21 st21
    have gn_b21 : n0 ≤ b21 := Nat.le_trans Z0 (Nat.le_of_eq g21.symm)
    have sz_b21 : h0.size ≤ b21 := Nat.le_trans (Keep.refl h0 []).1 (Nat.le_of_eq g21.symm)
    have Z22 : n0 ≤ h21.size := Nat.le_trans Z0 E21.1
    have K23 : Keep h0 h21 [] := (Keep.refl h0 []).ext E21
    have F_value_b21 : Fld Z h21 b21 oS "value" "[B" .null := D21 (Or.inr (ow hw 24 rfl)) (ty := (.array .byte)) (by decide)
    have F_coder_b21 : Fld Z h21 b21 oS "coder" "B" (.int 0) := D21 (Or.inr (ow hw 26 rfl)) (ty := .byte) (by decide)
    have fa24 := (Ox.ext E21)
    obtain ⟨_, _, ⟨T25, L25, k25, n25⟩, -, X25, ⟨Lc25, hQ25, l25, y25, z25⟩, st25⟩ := Jvm.LawKit.callS X21 hx (y := oM17) hown (mvT hZ (ow hw 206 rfl)) (mvT hZ (ow hw 207 rfl)) (mvT hZ (ow hw 37 rfl)) (mvT hZ (ow hw 208 rfl)) (by decide) (backOf (W := 2) (rm40 l Z a0 hw [] uc h21 n0 Z22 fa24 Ua Uh Ul) hZ (ow hw 208 rfl) (ow hw 37 rfl) (by decide) (by decide)) (g := (mkF m 31 #[oi uc] [(.int uc), (.ref b21), (.ref b21)])) rfl (by rw [hml]; rfl) (argsL := [(.int uc)]) (rest := [(.ref b21), (.ref b21)]) (lenOf pd19 rfl) rfl (Nat.le_of_eq rfl) (hb hby d1_31) (fun _ _ => ⟨rfl, e21, (by decide : 1 + 1 ≤ _), (by decide : 4 + 2 ≤ _)⟩)
    dsimp only [Pt.U, Pt.locs, Pt.cells, Pt.slots] at X25 l25 y25 z25 st25 hQ25
    subst l25 y25 z25
    obtain ⟨vb_26, kb_27, rfl, N25q, K25, u25_0, u25_1, f25_0⟩ := hQ25
    have N25 := Fr.app N2 N25q
    have Z28 : n0 ≤ T25.heap.size := Nat.le_trans Z22 K25.1
    have K29 : Keep h0 T25.heap [] := K23.trans K25 all0
    have ne30 := own_nc A21.lt u25_1
    have sz_vb_26 : h0.size ≤ vb_26 := Nat.le_trans K23.1 u25_1
    have fa31 := (A21.keep K25)
    have fa32 := (F_coder_b21.keep K25 nin0)
    have fa33 := (F_value_b21.keep K25 nin0)
    obtain ⟨_, _, ⟨T34, L34, k34, n34⟩, -, X34, ⟨Lc34, hQ34, l34, y34, z34⟩, st34⟩ := X25.specialBack hx (y := oM24) rfl hown (mvT hZ (ow hw 16 rfl)) (mvT hZ (ow hw 17 rfl)) (mvT hZ (ow hw 19 rfl)) (by decide) (backOf (W := 1) (rm4k1 l Z a0 hw [] b21 vb_26 (.int 0) .null T25.heap n0 Z28 fa31 fa32 fa33 gn_b21) hZ (ow hw 19 rfl) (ow hw 3 rfl) (by decide) (by decide)) (g := (mkF m 35 #[oi uc] [(.int 1), (.ref vb_26), (.ref b21), (.ref b21)])) rfl (by rw [hml]; rfl) (Steps.refl _) (a := b21) (argsL := [(.ref vb_26), (.int 1)]) (rest := [(.ref b21)]) (lenOf pd20 rfl) rfl (Nat.le_of_eq rfl) (hb hby d1_35) (fun _ _ => ⟨rfl, rfl, (by decide : 2 + 0 ≤ _), (by decide : 6 + 0 ≤ _)⟩)
    dsimp only [Pt.U, Pt.locs, Pt.cells, Pt.slots] at X34 l34 y34 z34 st34 hQ34
    subst l34 y34 z34
    obtain ⟨rfl, N34q, K34, f34_0, f34_1, f34_2⟩ := hQ34
    have N34 := Fr.app N25 N34q
    have Z35 : n0 ≤ T34.heap.size := Nat.le_trans Z28 K34.1
    have K36 : Keep h0 T34.heap [] := K29.trans K34 (allS (P := fun x => x ∈ _ ∨ _) (Or.inr sz_b21) all0)
    obtain ⟨fsZ, hrZ, hrun, hended, hW, hsame⟩ := X34.leave (v := some (.ref b21)) (fun h => by rw [Bd.returns] at h; cases h)
    have hqe : own_enc [uc] (1 : Int32) (2 : Int32) (own_ub [uc]) := own_enc1 hch (Or.inr ⟨hc4, rfl, rfl, rfl⟩)
    have fa37 := (f25_0.keep K34 (ninS (Ne.symm ne30) nin0))
    refine ⟨_, _, pre3 _ ?_, hrun, hended, _, _, rfl, ?_, ⟨_, rfl⟩, hW, hsame.mono (by decide) (by decide)⟩
    · show Steps _ _ _ (T2.setTop (mkF m 10 #[oi uc] [(.int (own_b (¬ ((255 : Int32) < uc))))])) _
      refine XS.ifYes X2.here hx rfl (pc0 := 10) (pc' := 26) rfl (hb hby d1_10) rfl ((if0 _ _).trans (teq (own_b_f hc4)).1) (by decide) (by decide) ?_
      refine st21 _ ?_
      refine XS.dup X21.here hx rfl (hb hby d1_29) rfl rfl ?_
      refine XS.iloadN X21.here hx rfl (hb hby d1_30) rfl  ?_
      refine st25 _ ?_
      refine XS.iconst X25.here hx rfl (hb hby d1_34) ?_
      refine st34.trans ?_
      show Steps _ _ _ (T34.setTop (mkF m 38 #[oi uc] [(.ref b21)])) _
      jvm_step X34.here [X34.here.top, hx, (hb hby d1_38), X34.method', Bd.returns, Value.isRef, FieldType.isReference]
      first | (intro acts; rw [hrZ _ acts rfl rfl rfl]) | rw [hrZ _ _ rfl rfl rfl]
      exact Steps.refl _
    · show Q1 Z uc cs h0 n0 _ T34.heap _
      exact ⟨b21, vb_26, kb_27, (1 : Int32), (2 : Int32), (own_ub [uc]), rfl, N34, K36, gn_b21, sz_b21, u25_0, sz_vb_26, (by first | assumption | exact own_b01 _ | decide | omega | exact Or.inl rfl | exact Or.inr (by assumption)), f34_0, f34_1, f34_2, fa37⟩
theorem d7_0 : decode zc26 0 = .ok (.aload_n 0, 1) := by decide +kernel
theorem d7_1 : decode zc26 1 = .ok (.invokespecial 1, 3) := by decide +kernel
theorem d7_4 : decode zc26 4 = .ok (.iload_n 3, 1) := by decide +kernel
theorem d7_5 : decode zc26 5 = .ok (.ifCond .ne 22, 3) := by decide +kernel
theorem d7_27 : decode zc26 27 = .ok (.getstatic 38, 3) := by decide +kernel
theorem d7_30 : decode zc26 30 = .ok (.ifCond .eq 28, 3) := by decide +kernel
theorem d7_33 : decode zc26 33 = .ok (.aload_n 1, 1) := by decide +kernel
theorem d7_34 : decode zc26 34 = .ok (.iload_n 2, 1) := by decide +kernel
theorem d7_35 : decode zc26 35 = .ok (.iload_n 3, 1) := by decide +kernel
theorem d7_36 : decode zc26 36 = .ok (.invokestatic 177, 3) := by decide +kernel
theorem d7_39 : decode zc26 39 = .ok (.astore 5, 2) := by decide +kernel
theorem d7_41 : decode zc26 41 = .ok (.aload_n 0, 1) := by decide +kernel
theorem d7_42 : decode zc26 42 = .ok (.aload 5, 2) := by decide +kernel
theorem d7_44 : decode zc26 44 = .ok (.iload_n 3, 1) := by decide +kernel
theorem d7_45 : decode zc26 45 = .ok (.invokestatic 47, 3) := by decide +kernel
theorem pd21 : parseMethodDescriptor "([BI)B" = some ⟨[(.array .byte), .int], some .byte⟩ := by decide +kernel
theorem d7_48 : decode zc26 48 = .ok (.putfield 15, 3) := by decide +kernel
theorem d7_51 : decode zc26 51 = .ok (.aload_n 0, 1) := by decide +kernel
theorem d7_52 : decode zc26 52 = .ok (.aload 5, 2) := by decide +kernel
theorem d7_54 : decode zc26 54 = .ok (.putfield 9, 3) := by decide +kernel
theorem d7_57 : decode zc26 57 = .ok (.return_, 1) := by decide +kernel
theorem ef7L (m : MethodId) (sa : Addr) (ca : Addr) : entryFrame m #[(.ref sa), (.ref ca), (.int 0), (.int 2), .null] 6 = mkF m 0 #[oa sa, oa ca, oi 0, oi 2, .val .null, .unset] [] := by first | (simp [entryFrame, mkF, argsToLocals, Value.category]; done) | rfl
def Q7L (Z : State) (sa : Addr) (ca : Addr) (w1 : Value) (w2 : Value) (kq : ClassId) (u0 : Int32) (u1 : Int32) (cs : Int32) (h0 : Heap) (n0 : Nat) (v : Option Value) (h : Heap) (L : List Loc) : Prop := ∃ (vb : Addr) (kb : ClassId), v = none ∧ Fr n0 L ∧ Keep h0 h [sa] ∧ n0 ≤ vb ∧ h0.size ≤ vb ∧ Exa Z h sa oS ∧ Fld Z h sa oS "coder" "B" (.int 0) ∧ Fld Z h sa oS "value" "[B" (.ref vb) ∧ Arv Z h vb kb .byte (2 : Int32) (own_lb [u0, u1]) (.int 0)
theorem rm7L (l : Launch) (Z : State) (a0 : Array Value) (hw : ∀ d ∈ tables_1, d.before a0 Z = true) (ws : List Jvm.Cond) (sa : Addr) (ca : Addr) (w1 : Value) (w2 : Value) (kq : ClassId) (u0 : Int32) (u1 : Int32) (cs : Int32) (h0 : Heap) (n0 : Nat) (Z0 : n0 ≤ h0.size) (Es : Exa Z h0 sa oS) (Sc : Fld Z h0 sa oS "coder" "B" w1) (Sv : Fld Z h0 sa oS "value" "[B" w2) (gs : n0 ≤ sa) (Vc : Arv Z h0 ca kq .char (2 : Int32) [(.int u0), (.int u1)] (.int 0)) (nc : sa ≠ ca) (h0x : ¬ ((255 : Int32) < u0)) (h1x : ¬ ((255 : Int32) < u1)) (Cs : Sta Z Z.heap oS "COMPACT_STRINGS" "Z" (.int cs)) (hcs : ¬ (cs = (0 : Int32))) (Ox : Old Z n0 h0) :
    MetFree l oM26 (head1 (Jvm.Cond.code oM26 zc26 6 none :: ws) oR17) (fun a U => a = #[(.ref sa), (.ref ca), (.int 0), (.int 2), .null] ∧ Z.Warmed39 U.vm ∧ U.heap = h0) (fun _ _ _ _ _ => True) (fun _ U o U' => ∃ v L, o = .returned v ∧ Q7L Z sa ca w1 w2 kq u0 u1 cs h0 n0 v U'.heap L ∧ FrameEnd U o U' L oR17.cells oR17.slots) := by
  refine MetFree.of_bodySF (plainFor_of_name pn3) hisR ?_
  intro p e s m args below meth c s₁ Bd hml0 hP hK
  obtain ⟨rfl, hZ, hh⟩ := hP
  have hx := Bd.exec
  have hby := Bd.bytes
  have hml : c.maxLocals = 6 := hml0
  have hown : s.vm.findClass oS = some m.cls := findClass_of_methodNamed Bd.named
  have hnm := (name_of_methodNamed Bd.named Bd.method).1
  have X0 : Stand p l e oR17 s m #[(.ref sa), (.ref ca), (.int 0), (.int 2), .null] below meth c s₁ [] 0 0 := Stand.of_body Bd
  have e0 : s₁.heap = h0 := by rw [← hh, Bd.state]; rfl
  have N0 := Fr.nil n0
  have pre0 := own_pre (p := p) (e := e) (below := below) (s₁ := s₁) (ef7L m sa ca)
  obtain ⟨T1, X1, e1, st1⟩ := initO X0 hx hZ hown (ow hw 20 rfl) (ow hw 21 rfl) (ow hw 22 rfl) e0 (g := (mkF m 1 #[oa sa, oa ca, oi 0, oi 2, .val .null, .unset] [(.ref sa)])) rfl (by rw [hml]; rfl) rfl (hb hby d7_1) (by decide) (W := 0) (Nat.le_of_eq rfl) (by decide)
  obtain ⟨T2, X2, e2, st2⟩ := getS2 X1 hx hZ hown (host := "") (Or.inl (ow hw 5 rfl)) Via.refl e1 (Cs.ext Ox.2) (g := (mkF m 27 #[oa sa, oa ca, oi 0, oi 2, .val .null, .unset] [])) rfl (hb hby d7_27)
  obtain ⟨_, _, ⟨T3, L3, k3, n3⟩, -, X3, ⟨Lc3, hQ3, l3, y3, z3⟩, st3⟩ := Jvm.LawKit.callS X2 hx (y := oM22) hown (mvT hZ (ow hw 35 rfl)) (mvT hZ (ow hw 36 rfl)) (mvT hZ (ow hw 37 rfl)) (mvT hZ (ow hw 38 rfl)) (by decide) (backOf (W := 0) (rm8L l Z a0 hw [] ca kq u0 u1 h0 n0 Z0 Vc h0x h1x) hZ (ow hw 38 rfl) (ow hw 37 rfl) (by decide) (by decide)) (g := (mkF m 36 #[oa sa, oa ca, oi 0, oi 2, .val .null, .unset] [(.int 2), (.int 0), (.ref ca)])) rfl (by rw [hml]; rfl) (argsL := [(.ref ca), (.int 0), (.int 2)]) (rest := []) (lenOf pd17 rfl) rfl (Nat.le_of_eq rfl) (hb hby d7_36) (fun _ _ => ⟨rfl, e2, (by decide : 0 + 1 ≤ _), (by decide : 0 + 2 ≤ _)⟩)
  dsimp only [Pt.U, Pt.locs, Pt.cells, Pt.slots] at X3 l3 y3 z3 st3 hQ3
  subst l3 y3 z3
  obtain ⟨vb_4, kb_5, rfl, N3q, K3, u3_0, u3_1, f3_0⟩ := hQ3
  have N3 := Fr.app N0 N3q
  have Z6 : n0 ≤ T3.heap.size := Nat.le_trans Z0 K3.1
  have K7 : Keep h0 T3.heap [sa] := (Keep.refl h0 [sa]).trans K3 all0
  have ne8 := own_nc Es.lt u3_1
  have ne9 := own_nc Vc.lt u3_1
  have sz_vb_4 : h0.size ≤ vb_4 := Nat.le_trans (Keep.refl h0 [sa]).1 u3_1
  obtain ⟨_, _, ⟨T10, L10, k10, n10⟩, -, X10, ⟨Lc10, hQ10, l10, y10, z10⟩, st10⟩ := Jvm.LawKit.callS X3 hx (y := oM23) hown (mvT hZ (ow hw 42 rfl)) (mvT hZ (ow hw 43 rfl)) (mvT hZ (ow hw 37 rfl)) (mvT hZ (ow hw 44 rfl)) (by decide) (backOf (W := 1) (rm10k0 l Z a0 hw [] vb_4 kb_5 (own_lb [u0, u1]) T3.heap n0 Z6 f3_0) hZ (ow hw 44 rfl) (ow hw 37 rfl) (by decide) (by decide)) (g := (mkF m 45 #[oa sa, oa ca, oi 0, oi 2, .val .null, oa vb_4] [(.int 2), (.ref vb_4), (.ref sa)])) rfl (by rw [hml]; rfl) (argsL := [(.ref vb_4), (.int 2)]) (rest := [(.ref sa)]) (lenOf pd21 rfl) rfl (Nat.le_of_eq rfl) (hb hby d7_45) (fun _ _ => ⟨rfl, rfl, (by decide : 1 + 0 ≤ _), (by decide : 2 + 0 ≤ _)⟩)
  dsimp only [Pt.U, Pt.locs, Pt.cells, Pt.slots] at X10 l10 y10 z10 st10 hQ10
  subst l10 y10 z10
  obtain ⟨rfl, N10q, e10⟩ := hQ10
  have N10 := Fr.app N3 N10q
  have fa11 := (Sc.keep K3 nin0)
  have fa12 := (Es.keep K3)
  obtain ⟨T13, h13, X13, e13, W13, st13⟩ := putFN X10 hx hZ hown (ow hw 25 rfl) Via.refl e10 fa11 fa12 (Or.inr ⟨(ow hw 26 rfl), rfl, hnm⟩) (ow hw 11 rfl) (ty := .byte) (v' := (.int 0)) (by decide) rfl (by decide) (g := (mkF m 48 #[oa sa, oa ca, oi 0, oi 2, .val .null, oa vb_4] [(.int 0), (.ref sa)])) rfl rfl (hb hby d7_48)
  have fw13 : Fld Z h13 sa oS "coder" "B" (.int 0) := fa11.same W13
  have Z14 : n0 ≤ h13.size := Nat.le_trans Z6 (Nat.le_of_eq W13.size.symm)
  have K15 : Keep h0 h13 [sa] := K7.wr W13 (Or.inl (List.mem_of_getElem? (i := 0) rfl))
  have N13 := Fr.snoc X13 N10 gs
  have fa16 := ((Sv.keep K3 nin0).other W13 (Or.inr (slot_ne (Or.inr (ow hw 24 rfl)) (Or.inr (ow hw 26 rfl)) (by decide) (t := (.array .byte)) (t' := .byte) (by decide) (by decide))))
  have fa17 := (fa12.wr W13)
  obtain ⟨T18, h18, X18, e18, W18, st18⟩ := putF X13 hx hZ hown (host := "") (Or.inl (ow hw 23 rfl)) Via.refl e13 fa16 fa17 (Or.inr ⟨(ow hw 24 rfl), rfl, hnm⟩) (ow hw 11 rfl) (ty := (.array .byte)) (by decide) rfl rfl (g := (mkF m 54 #[oa sa, oa ca, oi 0, oi 2, .val .null, oa vb_4] [(.ref vb_4), (.ref sa)])) rfl rfl (hb hby d7_54)
  have fw18 : Fld Z h18 sa oS "value" "[B" (.ref vb_4) := fa16.same W18
  have Z19 : n0 ≤ h18.size := Nat.le_trans Z14 (Nat.le_of_eq W18.size.symm)
  have K20 : Keep h0 h18 [sa] := K15.wr W18 (Or.inl (List.mem_of_getElem? (i := 0) rfl))
  have N18 := Fr.snoc X18 N13 gs
  obtain ⟨fsZ, hrZ, hrun, hended, hW, hsame⟩ := X18.leave (v := none) (fun _ => rfl)
  have fa21 := (fa17.wr W18)
  have fa22 := (fw13.other W18 (Or.inr (slot_ne (Or.inr (ow hw 26 rfl)) (Or.inr (ow hw 24 rfl)) (by decide) (t := .byte) (t' := (.array .byte)) (by decide) (by decide))))
  have fa23 := ((f3_0.other W13 (Ne.symm ne8)).other W18 (Ne.symm ne8))
  refine ⟨_, _, pre0 _ ?_, hrun, hended, _, _, rfl, ?_, ⟨_, rfl⟩, hW, hsame.mono (by decide) (by decide)⟩
  · show Steps _ _ _ (s₁.setTop (mkF m 0 #[oa sa, oa ca, oi 0, oi 2, .val .null, .unset] [])) _
    refine XS.aloadN X0.here hx rfl (hb hby d7_0) rfl rfl ?_
    refine st1 _ ?_
    refine XS.iloadN X1.here hx rfl (hb hby d7_4) rfl  ?_
    refine XS.ifYes X1.here hx rfl (pc0 := 5) (pc' := 27) rfl (hb hby d7_5) rfl ((if0 _ _).trans (feq (by decide)).2) (by decide) (by decide) ?_
    refine st2 _ ?_
    refine XS.ifNo X2.here hx rfl (hb hby d7_30) rfl ((if0 _ _).trans (feq hcs).1) ?_
    refine XS.aloadN X2.here hx rfl (hb hby d7_33) rfl rfl ?_
    refine XS.iloadN X2.here hx rfl (hb hby d7_34) rfl  ?_
    show Steps _ _ _ (T2.setTop (mkF m 35 #[oa sa, oa ca, oi 0, oi 2, .val .null, .unset] [(.int 0), (.ref ca)])) _
    refine XS.iloadN X2.here hx rfl (hb hby d7_35) rfl  ?_
    refine st3 _ ?_
    refine XS.astore X3.here hx rfl (hb hby d7_39) rfl rfl (l' := #[oa sa, oa ca, oi 0, oi 2, .val .null, oa vb_4]) rfl ?_
    refine XS.aloadN X3.here hx rfl (hb hby d7_41) rfl rfl ?_
    refine XS.aload X3.here hx rfl (hb hby d7_42) rfl rfl ?_
    refine XS.iloadN X3.here hx rfl (hb hby d7_44) rfl  ?_
    refine st10 _ ?_
    refine st13 _ ?_
    show Steps _ _ _ (T13.setTop (mkF m 51 #[oa sa, oa ca, oi 0, oi 2, .val .null, oa vb_4] [])) _
    refine XS.aloadN X13.here hx rfl (hb hby d7_51) rfl rfl ?_
    refine XS.aload X13.here hx rfl (hb hby d7_52) rfl rfl ?_
    refine st18 _ ?_
    show Steps _ _ _ (T18.setTop (mkF m 57 #[oa sa, oa ca, oi 0, oi 2, .val .null, oa vb_4] [])) _
    exact X18.returnOut hx Bd.returns (hb hby d7_57) hrZ
  · show Q7L Z sa ca w1 w2 kq u0 u1 cs h0 n0 _ T18.heap _
    rw [e18]
    exact ⟨vb_4, kb_5, rfl, N18, K20, u3_0, sz_vb_4, fa21, fa22, fw18, fa23⟩
theorem ef7U (m : MethodId) (sa : Addr) (ca : Addr) : entryFrame m #[(.ref sa), (.ref ca), (.int 0), (.int 2), .null] 6 = mkF m 0 #[oa sa, oa ca, oi 0, oi 2, .val .null, .unset] [] := by first | (simp [entryFrame, mkF, argsToLocals, Value.category]; done) | rfl
def Q7U (Z : State) (sa : Addr) (ca : Addr) (w1 : Value) (w2 : Value) (kq : ClassId) (u0 : Int32) (u1 : Int32) (cs : Int32) (h0 : Heap) (n0 : Nat) (v : Option Value) (h : Heap) (L : List Loc) : Prop := ∃ (vb : Addr) (kb : ClassId), v = none ∧ Fr n0 L ∧ Keep h0 h [sa] ∧ n0 ≤ vb ∧ h0.size ≤ vb ∧ Exa Z h sa oS ∧ Fld Z h sa oS "coder" "B" (.int 1) ∧ Fld Z h sa oS "value" "[B" (.ref vb) ∧ Arv Z h vb kb .byte (4 : Int32) (own_ub [u0, u1]) (.int 0)
theorem rm7U (l : Launch) (Z : State) (a0 : Array Value) (hw : ∀ d ∈ tables_1, d.before a0 Z = true) (ws : List Jvm.Cond) (sa : Addr) (ca : Addr) (w1 : Value) (w2 : Value) (kq : ClassId) (u0 : Int32) (u1 : Int32) (cs : Int32) (h0 : Heap) (n0 : Nat) (Z0 : n0 ≤ h0.size) (Es : Exa Z h0 sa oS) (Sc : Fld Z h0 sa oS "coder" "B" w1) (Sv : Fld Z h0 sa oS "value" "[B" w2) (gs : n0 ≤ sa) (Vc : Arv Z h0 ca kq .char (2 : Int32) [(.int u0), (.int u1)] (.int 0)) (nc : sa ≠ ca) (Ua : Sta Z Z.heap o6 "$assertionsDisabled" "Z" (.int 1)) (Uh : Sta Z Z.heap o6 "HI_BYTE_SHIFT" "I" (.int 0)) (Ul : Sta Z Z.heap o6 "LO_BYTE_SHIFT" "I" (.int 8)) (hc0 : own_ch u0) (hc1 : own_ch u1) (hun : ¬ own_lat [u0, u1]) (Cs : Sta Z Z.heap oS "COMPACT_STRINGS" "Z" (.int cs)) (hcs : ¬ (cs = (0 : Int32))) (Ox : Old Z n0 h0) :
    MetFree l oM26 (head1 (Jvm.Cond.code oM26 zc26 6 none :: ws) oR18) (fun a U => a = #[(.ref sa), (.ref ca), (.int 0), (.int 2), .null] ∧ Z.Warmed39 U.vm ∧ U.heap = h0) (fun _ _ _ _ _ => True) (fun _ U o U' => ∃ v L, o = .returned v ∧ Q7U Z sa ca w1 w2 kq u0 u1 cs h0 n0 v U'.heap L ∧ FrameEnd U o U' L oR18.cells oR18.slots) := by
  refine MetFree.of_bodySF (plainFor_of_name pn3) hisR ?_
  intro p e s m args below meth c s₁ Bd hml0 hP hK
  obtain ⟨rfl, hZ, hh⟩ := hP
  have hx := Bd.exec
  have hby := Bd.bytes
  have hml : c.maxLocals = 6 := hml0
  have hown : s.vm.findClass oS = some m.cls := findClass_of_methodNamed Bd.named
  have hnm := (name_of_methodNamed Bd.named Bd.method).1
  have X0 : Stand p l e oR18 s m #[(.ref sa), (.ref ca), (.int 0), (.int 2), .null] below meth c s₁ [] 0 0 := Stand.of_body Bd
  have e0 : s₁.heap = h0 := by rw [← hh, Bd.state]; rfl
  have N0 := Fr.nil n0
  have pre0 := own_pre (p := p) (e := e) (below := below) (s₁ := s₁) (ef7U m sa ca)
  obtain ⟨T1, X1, e1, st1⟩ := initO X0 hx hZ hown (ow hw 20 rfl) (ow hw 21 rfl) (ow hw 22 rfl) e0 (g := (mkF m 1 #[oa sa, oa ca, oi 0, oi 2, .val .null, .unset] [(.ref sa)])) rfl (by rw [hml]; rfl) rfl (hb hby d7_1) (by decide) (W := 0) (Nat.le_of_eq rfl) (by decide)
  obtain ⟨T2, X2, e2, st2⟩ := getS2 X1 hx hZ hown (host := "") (Or.inl (ow hw 5 rfl)) Via.refl e1 (Cs.ext Ox.2) (g := (mkF m 27 #[oa sa, oa ca, oi 0, oi 2, .val .null, .unset] [])) rfl (hb hby d7_27)
  obtain ⟨_, _, ⟨T3, L3, k3, n3⟩, -, X3, ⟨Lc3, hQ3, l3, y3, z3⟩, st3⟩ := Jvm.LawKit.callS X2 hx (y := oM22) hown (mvT hZ (ow hw 35 rfl)) (mvT hZ (ow hw 36 rfl)) (mvT hZ (ow hw 37 rfl)) (mvT hZ (ow hw 38 rfl)) (by decide) (backOf (W := 0) (rm8U l Z a0 hw [] ca kq u0 u1 h0 n0 Z0 Vc Ox Ua Uh Ul hc0 hc1 hun) hZ (ow hw 38 rfl) (ow hw 37 rfl) (by decide) (by decide)) (g := (mkF m 36 #[oa sa, oa ca, oi 0, oi 2, .val .null, .unset] [(.int 2), (.int 0), (.ref ca)])) rfl (by rw [hml]; rfl) (argsL := [(.ref ca), (.int 0), (.int 2)]) (rest := []) (lenOf pd17 rfl) rfl (Nat.le_of_eq rfl) (hb hby d7_36) (fun _ _ => ⟨rfl, e2, (by decide : 0 + 2 ≤ _), (by decide : 0 + 6 ≤ _)⟩)
  dsimp only [Pt.U, Pt.locs, Pt.cells, Pt.slots] at X3 l3 y3 z3 st3 hQ3
  subst l3 y3 z3
  obtain ⟨vb_4, kb_5, rfl, N3q, K3, u3_0, u3_1, f3_0⟩ := hQ3
  have N3 := Fr.app N0 N3q
  have Z6 : n0 ≤ T3.heap.size := Nat.le_trans Z0 K3.1
  have K7 : Keep h0 T3.heap [sa] := (Keep.refl h0 [sa]).trans K3 all0
  have ne8 := own_nc Es.lt u3_1
  have ne9 := own_nc Vc.lt u3_1
  have sz_vb_4 : h0.size ≤ vb_4 := Nat.le_trans (Keep.refl h0 [sa]).1 u3_1
  obtain ⟨_, _, ⟨T10, L10, k10, n10⟩, -, X10, ⟨Lc10, hQ10, l10, y10, z10⟩, st10⟩ := Jvm.LawKit.callS X3 hx (y := oM23) hown (mvT hZ (ow hw 42 rfl)) (mvT hZ (ow hw 43 rfl)) (mvT hZ (ow hw 37 rfl)) (mvT hZ (ow hw 44 rfl)) (by decide) (backOf (W := 1) (rm10k1 l Z a0 hw [] vb_4 kb_5 (own_ub [u0, u1]) T3.heap n0 Z6 f3_0) hZ (ow hw 44 rfl) (ow hw 37 rfl) (by decide) (by decide)) (g := (mkF m 45 #[oa sa, oa ca, oi 0, oi 2, .val .null, oa vb_4] [(.int 2), (.ref vb_4), (.ref sa)])) rfl (by rw [hml]; rfl) (argsL := [(.ref vb_4), (.int 2)]) (rest := [(.ref sa)]) (lenOf pd21 rfl) rfl (Nat.le_of_eq rfl) (hb hby d7_45) (fun _ _ => ⟨rfl, rfl, (by decide : 2 + 0 ≤ _), (by decide : 6 + 0 ≤ _)⟩)
  dsimp only [Pt.U, Pt.locs, Pt.cells, Pt.slots] at X10 l10 y10 z10 st10 hQ10
  subst l10 y10 z10
  obtain ⟨rfl, N10q, e10⟩ := hQ10
  have N10 := Fr.app N3 N10q
  have fa11 := (Sc.keep K3 nin0)
  have fa12 := (Es.keep K3)
  obtain ⟨T13, h13, X13, e13, W13, st13⟩ := putFN X10 hx hZ hown (ow hw 25 rfl) Via.refl e10 fa11 fa12 (Or.inr ⟨(ow hw 26 rfl), rfl, hnm⟩) (ow hw 11 rfl) (ty := .byte) (v' := (.int 1)) (by decide) rfl (by decide) (g := (mkF m 48 #[oa sa, oa ca, oi 0, oi 2, .val .null, oa vb_4] [(.int 1), (.ref sa)])) rfl rfl (hb hby d7_48)
  have fw13 : Fld Z h13 sa oS "coder" "B" (.int 1) := fa11.same W13
  have Z14 : n0 ≤ h13.size := Nat.le_trans Z6 (Nat.le_of_eq W13.size.symm)
  have K15 : Keep h0 h13 [sa] := K7.wr W13 (Or.inl (List.mem_of_getElem? (i := 0) rfl))
  have N13 := Fr.snoc X13 N10 gs
  have fa16 := ((Sv.keep K3 nin0).other W13 (Or.inr (slot_ne (Or.inr (ow hw 24 rfl)) (Or.inr (ow hw 26 rfl)) (by decide) (t := (.array .byte)) (t' := .byte) (by decide) (by decide))))
  have fa17 := (fa12.wr W13)
  obtain ⟨T18, h18, X18, e18, W18, st18⟩ := putF X13 hx hZ hown (host := "") (Or.inl (ow hw 23 rfl)) Via.refl e13 fa16 fa17 (Or.inr ⟨(ow hw 24 rfl), rfl, hnm⟩) (ow hw 11 rfl) (ty := (.array .byte)) (by decide) rfl rfl (g := (mkF m 54 #[oa sa, oa ca, oi 0, oi 2, .val .null, oa vb_4] [(.ref vb_4), (.ref sa)])) rfl rfl (hb hby d7_54)
  have fw18 : Fld Z h18 sa oS "value" "[B" (.ref vb_4) := fa16.same W18
  have Z19 : n0 ≤ h18.size := Nat.le_trans Z14 (Nat.le_of_eq W18.size.symm)
  have K20 : Keep h0 h18 [sa] := K15.wr W18 (Or.inl (List.mem_of_getElem? (i := 0) rfl))
  have N18 := Fr.snoc X18 N13 gs
  obtain ⟨fsZ, hrZ, hrun, hended, hW, hsame⟩ := X18.leave (v := none) (fun _ => rfl)
  have fa21 := (fa17.wr W18)
  have fa22 := (fw13.other W18 (Or.inr (slot_ne (Or.inr (ow hw 26 rfl)) (Or.inr (ow hw 24 rfl)) (by decide) (t := .byte) (t' := (.array .byte)) (by decide) (by decide))))
  have fa23 := ((f3_0.other W13 (Ne.symm ne8)).other W18 (Ne.symm ne8))
  refine ⟨_, _, pre0 _ ?_, hrun, hended, _, _, rfl, ?_, ⟨_, rfl⟩, hW, hsame.mono (by decide) (by decide)⟩
  · show Steps _ _ _ (s₁.setTop (mkF m 0 #[oa sa, oa ca, oi 0, oi 2, .val .null, .unset] [])) _
    refine XS.aloadN X0.here hx rfl (hb hby d7_0) rfl rfl ?_
    refine st1 _ ?_
    refine XS.iloadN X1.here hx rfl (hb hby d7_4) rfl  ?_
    refine XS.ifYes X1.here hx rfl (pc0 := 5) (pc' := 27) rfl (hb hby d7_5) rfl ((if0 _ _).trans (feq (by decide)).2) (by decide) (by decide) ?_
    refine st2 _ ?_
    refine XS.ifNo X2.here hx rfl (hb hby d7_30) rfl ((if0 _ _).trans (feq hcs).1) ?_
    refine XS.aloadN X2.here hx rfl (hb hby d7_33) rfl rfl ?_
    refine XS.iloadN X2.here hx rfl (hb hby d7_34) rfl  ?_
    show Steps _ _ _ (T2.setTop (mkF m 35 #[oa sa, oa ca, oi 0, oi 2, .val .null, .unset] [(.int 0), (.ref ca)])) _
    refine XS.iloadN X2.here hx rfl (hb hby d7_35) rfl  ?_
    refine st3 _ ?_
    refine XS.astore X3.here hx rfl (hb hby d7_39) rfl rfl (l' := #[oa sa, oa ca, oi 0, oi 2, .val .null, oa vb_4]) rfl ?_
    refine XS.aloadN X3.here hx rfl (hb hby d7_41) rfl rfl ?_
    refine XS.aload X3.here hx rfl (hb hby d7_42) rfl rfl ?_
    refine XS.iloadN X3.here hx rfl (hb hby d7_44) rfl  ?_
    refine st10 _ ?_
    refine st13 _ ?_
    show Steps _ _ _ (T13.setTop (mkF m 51 #[oa sa, oa ca, oi 0, oi 2, .val .null, oa vb_4] [])) _
    refine XS.aloadN X13.here hx rfl (hb hby d7_51) rfl rfl ?_
    refine XS.aload X13.here hx rfl (hb hby d7_52) rfl rfl ?_
    refine st18 _ ?_
    show Steps _ _ _ (T18.setTop (mkF m 57 #[oa sa, oa ca, oi 0, oi 2, .val .null, oa vb_4] [])) _
    exact X18.returnOut hx Bd.returns (hb hby d7_57) hrZ
  · show Q7U Z sa ca w1 w2 kq u0 u1 cs h0 n0 _ T18.heap _
    rw [e18]
    exact ⟨vb_4, kb_5, rfl, N18, K20, u3_0, sz_vb_4, fa21, fa22, fw18, fa23⟩
theorem d6_0 : decode zc27 0 = .ok (.aload_n 0, 1) := by decide +kernel
theorem d6_1 : decode zc27 1 = .ok (.aload_n 1, 1) := by decide +kernel
theorem d6_2 : decode zc27 2 = .ok (.iconst 0, 1) := by decide +kernel
theorem d6_3 : decode zc27 3 = .ok (.aload_n 1, 1) := by decide +kernel
theorem d6_4 : decode zc27 4 = .ok (.arraylength, 1) := by decide +kernel
theorem d6_5 : decode zc27 5 = .ok (.aconst_null, 1) := by decide +kernel
theorem d6_6 : decode zc27 6 = .ok (.invokespecial 27, 3) := by decide +kernel
theorem pd22 : parseMethodDescriptor "([CIILjava/lang/Void;)V" = some ⟨[(.array .char), .int, .int, (.object "java/lang/Void")], none⟩ := by decide +kernel
theorem d6_9 : decode zc27 9 = .ok (.return_, 1) := by decide +kernel
theorem ef6n2 (m : MethodId) (sa : Addr) (ca : Addr) : entryFrame m #[(.ref sa), (.ref ca)] 2 = mkF m 0 #[oa sa, oa ca] [] := by first | (simp [entryFrame, mkF, argsToLocals, Value.category]; done) | rfl
def Q6n2 (Z : State) (sa : Addr) (ca : Addr) (w1 : Value) (w2 : Value) (kq : ClassId) (u0 : Int32) (u1 : Int32) (cs : Int32) (h0 : Heap) (n0 : Nat) (v : Option Value) (h : Heap) (L : List Loc) : Prop := ∃ (vb : Addr) (kb : ClassId) (kc : Int32) (nb : Int32) (vs : List Value), v = none ∧ Fr n0 L ∧ Keep h0 h [sa] ∧ n0 ≤ vb ∧ h0.size ≤ vb ∧ own_enc [u0, u1] kc nb vs ∧ Exa Z h sa oS ∧ Fld Z h sa oS "coder" "B" (.int kc) ∧ Fld Z h sa oS "value" "[B" (.ref vb) ∧ Arv Z h vb kb .byte nb vs (.int 0)
theorem rm6n2 (l : Launch) (Z : State) (a0 : Array Value) (hw : ∀ d ∈ tables_1, d.before a0 Z = true) (ws : List Jvm.Cond) (sa : Addr) (ca : Addr) (w1 : Value) (w2 : Value) (kq : ClassId) (u0 : Int32) (u1 : Int32) (cs : Int32) (h0 : Heap) (n0 : Nat) (Z0 : n0 ≤ h0.size) (Es : Exa Z h0 sa oS) (Sc : Fld Z h0 sa oS "coder" "B" w1) (Sv : Fld Z h0 sa oS "value" "[B" w2) (gs : n0 ≤ sa) (Vc : Arv Z h0 ca kq .char (2 : Int32) [(.int u0), (.int u1)] (.int 0)) (nc : sa ≠ ca) (Ua : Sta Z Z.heap o6 "$assertionsDisabled" "Z" (.int 1)) (Uh : Sta Z Z.heap o6 "HI_BYTE_SHIFT" "I" (.int 0)) (Ul : Sta Z Z.heap o6 "LO_BYTE_SHIFT" "I" (.int 8)) (hc0 : own_ch u0) (hc1 : own_ch u1) (Cs : Sta Z Z.heap oS "COMPACT_STRINGS" "Z" (.int cs)) (hcs : ¬ (cs = (0 : Int32))) (Ox : Old Z n0 h0) :
    MetFree l oM27 (head1 (Jvm.Cond.code oM27 zc27 2 none :: ws) oR19) (fun a U => a = #[(.ref sa), (.ref ca)] ∧ Z.Warmed39 U.vm ∧ U.heap = h0) (fun _ _ _ _ _ => True) (fun _ U o U' => ∃ v L, o = .returned v ∧ Q6n2 Z sa ca w1 w2 kq u0 u1 cs h0 n0 v U'.heap L ∧ FrameEnd U o U' L oR19.cells oR19.slots) := by
  refine MetFree.of_bodySF (plainFor_of_name pn3) hisR ?_
  intro p e s m args below meth c s₁ Bd hml0 hP hK
  obtain ⟨rfl, hZ, hh⟩ := hP
  have hx := Bd.exec
  have hby := Bd.bytes
  have hml : c.maxLocals = 2 := hml0
  have hown : s.vm.findClass oS = some m.cls := findClass_of_methodNamed Bd.named
  have X0 : Stand p l e oR19 s m #[(.ref sa), (.ref ca)] below meth c s₁ [] 0 0 := Stand.of_body Bd
  have e0 : s₁.heap = h0 := by rw [← hh, Bd.state]; rfl
  have N0 := Fr.nil n0
  have pre0 := own_pre (p := p) (e := e) (below := below) (s₁ := s₁) (ef6n2 m sa ca)
  by_cases hun : own_lat [u0, u1]
  ·  -- L
    have h0x := hun u0 (by simp)
    have h1x := hun u1 (by simp)
    obtain ⟨c1, Arc1, -, Sc1, Mc1, -, -⟩ := id Vc
    obtain ⟨_, _, ⟨T2, L2, k2, n2⟩, -, X2, ⟨Lc2, hQ2, l2, y2, z2⟩, st2⟩ := X0.specialBack hx (y := oM26) rfl hown (mvT hZ (ow hw 32 rfl)) (mvT hZ (ow hw 33 rfl)) (mvT hZ (ow hw 34 rfl)) (by decide) (backOf (W := 0) (rm7L l Z a0 hw [] sa ca w1 w2 kq u0 u1 cs h0 n0 Z0 Es Sc Sv gs Vc nc (by first | assumption | decide | omega) (by first | assumption | decide | omega) Cs hcs Ox) hZ (ow hw 34 rfl) (ow hw 3 rfl) (by decide) (by decide)) (g := (mkF m 6 #[oa sa, oa ca] [.null, (.int 2), (.int 0), (.ref ca), (.ref sa)])) rfl (by rw [hml]; rfl) (Steps.refl _) (a := sa) (argsL := [(.ref ca), (.int 0), (.int 2), .null]) (rest := []) (lenOf pd22 rfl) rfl (Nat.le_of_eq rfl) (hb hby d6_6) (fun _ _ => ⟨rfl, e0, (by decide : 0 + 1 ≤ _), (by decide : 0 + 2 ≤ _)⟩)
    dsimp only [Pt.U, Pt.locs, Pt.cells, Pt.slots] at X2 l2 y2 z2 st2 hQ2
    subst l2 y2 z2
    obtain ⟨vb_3, kb_4, rfl, N2q, K2, u2_0, u2_1, f2_0, f2_1, f2_2, f2_3⟩ := hQ2
    have N2 := Fr.app N0 N2q
    have Z5 : n0 ≤ T2.heap.size := Nat.le_trans Z0 K2.1
    have K6 : Keep h0 T2.heap [sa] := (Keep.refl h0 [sa]).trans K2 (allS (P := fun x => x ∈ _ ∨ _) (Or.inl (List.mem_of_getElem? (i := 0) rfl)) all0)
    have ne7 := own_nc Es.lt u2_1
    have ne8 := own_nc Vc.lt u2_1
    have sz_vb_3 : h0.size ≤ vb_3 := Nat.le_trans (Keep.refl h0 [sa]).1 u2_1
    obtain ⟨fsZ, hrZ, hrun, hended, hW, hsame⟩ := X2.leave (v := none) (fun _ => rfl)
    have hqe : own_enc [u0, u1] (0 : Int32) (2 : Int32) (own_lb [u0, u1]) := own_enc2 hc0 hc1 (Or.inl ⟨hun, rfl, rfl, rfl⟩)
    refine ⟨_, _, pre0 _ ?_, hrun, hended, _, _, rfl, ?_, ⟨_, rfl⟩, hW, hsame.mono (by decide) (by decide)⟩
    · show Steps _ _ _ (s₁.setTop (mkF m 0 #[oa sa, oa ca] [])) _
      refine XS.aloadN X0.here hx rfl (hb hby d6_0) rfl rfl ?_
      refine XS.aloadN X0.here hx rfl (hb hby d6_1) rfl rfl ?_
      refine XS.iconst X0.here hx rfl (hb hby d6_2) ?_
      refine XS.aloadN X0.here hx rfl (hb hby d6_3) rfl rfl ?_
      show Steps _ _ _ (s₁.setTop (mkF m 4 #[oa sa, oa ca] [(.ref ca), (.int 0), (.ref ca), (.ref sa)])) _
      refine X0.arraylength hx (by rw [e0]; exact Arc1.1) (State.isArrayOf_alike hZ.alike Arc1.2.1) (g := (mkF m 4 #[oa sa, oa ca] [(.ref ca), (.int 0), (.ref ca), (.ref sa)])) rfl rfl (hb hby d6_4) _ ?_
      rw [len_of Sc1 Mc1]
      show Steps _ _ _ (s₁.setTop (mkF m 5 #[oa sa, oa ca] [(.int 2), (.int 0), (.ref ca), (.ref sa)])) _
      refine XS.aconstNull X0.here hx rfl (hb hby d6_5) ?_
      refine st2.trans ?_
      show Steps _ _ _ (T2.setTop (mkF m 9 #[oa sa, oa ca] [])) _
      exact X2.returnOut hx Bd.returns (hb hby d6_9) hrZ
    · show Q6n2 Z sa ca w1 w2 kq u0 u1 cs h0 n0 _ T2.heap _
      exact ⟨vb_3, kb_4, (0 : Int32), (2 : Int32), (own_lb [u0, u1]), rfl, N2, K6, u2_0, sz_vb_3, (by first | assumption | exact own_b01 _ | decide | omega | exact Or.inl rfl | exact Or.inr (by assumption)), f2_0, f2_1, f2_2, f2_3⟩
  ·  -- U
    obtain ⟨c9, Arc9, -, Sc9, Mc9, -, -⟩ := id Vc
    obtain ⟨_, _, ⟨T10, L10, k10, n10⟩, -, X10, ⟨Lc10, hQ10, l10, y10, z10⟩, st10⟩ := X0.specialBack hx (y := oM26) rfl hown (mvT hZ (ow hw 32 rfl)) (mvT hZ (ow hw 33 rfl)) (mvT hZ (ow hw 34 rfl)) (by decide) (backOf (W := 0) (rm7U l Z a0 hw [] sa ca w1 w2 kq u0 u1 cs h0 n0 Z0 Es Sc Sv gs Vc nc Ua Uh Ul hc0 hc1 (by first | assumption | decide | omega) Cs hcs Ox) hZ (ow hw 34 rfl) (ow hw 3 rfl) (by decide) (by decide)) (g := (mkF m 6 #[oa sa, oa ca] [.null, (.int 2), (.int 0), (.ref ca), (.ref sa)])) rfl (by rw [hml]; rfl) (Steps.refl _) (a := sa) (argsL := [(.ref ca), (.int 0), (.int 2), .null]) (rest := []) (lenOf pd22 rfl) rfl (Nat.le_of_eq rfl) (hb hby d6_6) (fun _ _ => ⟨rfl, e0, (by decide : 0 + 2 ≤ _), (by decide : 0 + 6 ≤ _)⟩)
    dsimp only [Pt.U, Pt.locs, Pt.cells, Pt.slots] at X10 l10 y10 z10 st10 hQ10
    subst l10 y10 z10
    obtain ⟨vb_11, kb_12, rfl, N10q, K10, u10_0, u10_1, f10_0, f10_1, f10_2, f10_3⟩ := hQ10
    have N10 := Fr.app N0 N10q
    have Z13 : n0 ≤ T10.heap.size := Nat.le_trans Z0 K10.1
    have K14 : Keep h0 T10.heap [sa] := (Keep.refl h0 [sa]).trans K10 (allS (P := fun x => x ∈ _ ∨ _) (Or.inl (List.mem_of_getElem? (i := 0) rfl)) all0)
    have ne15 := own_nc Es.lt u10_1
    have ne16 := own_nc Vc.lt u10_1
    have sz_vb_11 : h0.size ≤ vb_11 := Nat.le_trans (Keep.refl h0 [sa]).1 u10_1
    obtain ⟨fsZ, hrZ, hrun, hended, hW, hsame⟩ := X10.leave (v := none) (fun _ => rfl)
    have hqe : own_enc [u0, u1] (1 : Int32) (4 : Int32) (own_ub [u0, u1]) := own_enc2 hc0 hc1 (Or.inr ⟨hun, rfl, rfl, rfl⟩)
    refine ⟨_, _, pre0 _ ?_, hrun, hended, _, _, rfl, ?_, ⟨_, rfl⟩, hW, hsame.mono (by decide) (by decide)⟩
    · show Steps _ _ _ (s₁.setTop (mkF m 0 #[oa sa, oa ca] [])) _
      refine XS.aloadN X0.here hx rfl (hb hby d6_0) rfl rfl ?_
      refine XS.aloadN X0.here hx rfl (hb hby d6_1) rfl rfl ?_
      refine XS.iconst X0.here hx rfl (hb hby d6_2) ?_
      refine XS.aloadN X0.here hx rfl (hb hby d6_3) rfl rfl ?_
      show Steps _ _ _ (s₁.setTop (mkF m 4 #[oa sa, oa ca] [(.ref ca), (.int 0), (.ref ca), (.ref sa)])) _
      refine X0.arraylength hx (by rw [e0]; exact Arc9.1) (State.isArrayOf_alike hZ.alike Arc9.2.1) (g := (mkF m 4 #[oa sa, oa ca] [(.ref ca), (.int 0), (.ref ca), (.ref sa)])) rfl rfl (hb hby d6_4) _ ?_
      rw [len_of Sc9 Mc9]
      show Steps _ _ _ (s₁.setTop (mkF m 5 #[oa sa, oa ca] [(.int 2), (.int 0), (.ref ca), (.ref sa)])) _
      refine XS.aconstNull X0.here hx rfl (hb hby d6_5) ?_
      refine st10.trans ?_
      show Steps _ _ _ (T10.setTop (mkF m 9 #[oa sa, oa ca] [])) _
      exact X10.returnOut hx Bd.returns (hb hby d6_9) hrZ
    · show Q6n2 Z sa ca w1 w2 kq u0 u1 cs h0 n0 _ T10.heap _
      exact ⟨vb_11, kb_12, (1 : Int32), (4 : Int32), (own_ub [u0, u1]), rfl, N10, K14, u10_0, sz_vb_11, (by first | assumption | exact own_b01 _ | decide | omega | exact Or.inl rfl | exact Or.inr (by assumption)), f10_0, f10_1, f10_2, f10_3⟩
theorem pn23 : plainName "java/lang/AbstractStringBuilder" = true := by first | (simp [plainName, overriddenIn]; done) | decide +kernel
theorem d14_0 : decode zc28 0 = .ok (.aload_n 0, 1) := by decide +kernel
theorem d14_1 : decode zc28 1 = .ok (.invokespecial 3, 3) := by decide +kernel
theorem d14_4 : decode zc28 4 = .ok (.getstatic 18, 3) := by decide +kernel
theorem d14_7 : decode zc28 7 = .ok (.ifCond .eq 18, 3) := by decide +kernel
theorem d14_10 : decode zc28 10 = .ok (.aload_n 0, 1) := by decide +kernel
theorem d14_11 : decode zc28 11 = .ok (.iload_n 1, 1) := by decide +kernel
theorem d14_12 : decode zc28 12 = .ok (.newarray .byte, 2) := by decide +kernel
theorem d14_14 : decode zc28 14 = .ok (.putfield 15, 3) := by decide +kernel
theorem d14_17 : decode zc28 17 = .ok (.aload_n 0, 1) := by decide +kernel
theorem d14_18 : decode zc28 18 = .ok (.iconst 0, 1) := by decide +kernel
theorem d14_19 : decode zc28 19 = .ok (.putfield 22, 3) := by decide +kernel
theorem d14_22 : decode zc28 22 = .ok (.goto 16, 3) := by decide +kernel
theorem d14_38 : decode zc28 38 = .ok (.return_, 1) := by decide +kernel
theorem ef14 (m : MethodId) (b : Addr) : entryFrame m #[(.ref b), (.int 16)] 2 = mkF m 0 #[oa b, oi 16] [] := by first | (simp [entryFrame, mkF, argsToLocals, Value.category]; done) | rfl
def Q14 (Z : State) (b : Addr) (w1 : Value) (w2 : Value) (cs : Int32) (h0 : Heap) (n0 : Nat) (v : Option Value) (h : Heap) (L : List Loc) : Prop := ∃ (va : Addr) (kv : ClassId), v = none ∧ Fr n0 L ∧ Keep h0 h [b] ∧ n0 ≤ va ∧ h0.size ≤ va ∧ Exa Z h b oB ∧ Fld Z h b oA "value" "[B" (.ref va) ∧ Fld Z h b oA "coder" "B" (.int 0) ∧ Fld Z h b oA "count" "I" (.int 0) ∧ Fld Z h b oA "maybeLatin1" "Z" (.int 0) ∧ Arv Z h va kv .byte (16 : Int32) [] (.int 0)
theorem rm14 (l : Launch) (Z : State) (a0 : Array Value) (hw : ∀ d ∈ tables_1, d.before a0 Z = true) (ws : List Jvm.Cond) (b : Addr) (w1 : Value) (w2 : Value) (cs : Int32) (h0 : Heap) (n0 : Nat) (Z0 : n0 ≤ h0.size) (Eb : Exa Z h0 b oB) (Bv : Fld Z h0 b oA "value" "[B" w1) (Bc : Fld Z h0 b oA "coder" "B" w2) (Bn : Fld Z h0 b oA "count" "I" (.int 0)) (Bm : Fld Z h0 b oA "maybeLatin1" "Z" (.int 0)) (gb : n0 ≤ b) (Cs : Sta Z Z.heap oS "COMPACT_STRINGS" "Z" (.int cs)) (hcs : ¬ (cs = (0 : Int32))) (Ox : Old Z n0 h0) :
    MetFree l oM28 (head1 (Jvm.Cond.code oM28 zc28 2 none :: ws) oR20) (fun a U => a = #[(.ref b), (.int 16)] ∧ Z.Warmed39 U.vm ∧ U.heap = h0) (fun _ _ _ _ _ => True) (fun _ U o U' => ∃ v L, o = .returned v ∧ Q14 Z b w1 w2 cs h0 n0 v U'.heap L ∧ FrameEnd U o U' L oR20.cells oR20.slots) := by
  refine MetFree.of_bodySF (plainFor_of_name pn23) hisR ?_
  intro p e s m args below meth c s₁ Bd hml0 hP hK
  obtain ⟨rfl, hZ, hh⟩ := hP
  have hx := Bd.exec
  have hby := Bd.bytes
  have hml : c.maxLocals = 2 := hml0
  have hown : s.vm.findClass oA = some m.cls := findClass_of_methodNamed Bd.named
  have X0 : Stand p l e oR20 s m #[(.ref b), (.int 16)] below meth c s₁ [] 0 0 := Stand.of_body Bd
  have e0 : s₁.heap = h0 := by rw [← hh, Bd.state]; rfl
  have N0 := Fr.nil n0
  have pre0 := own_pre (p := p) (e := e) (below := below) (s₁ := s₁) (ef14 m b)
  obtain ⟨T1, X1, e1, st1⟩ := initO X0 hx hZ hown (ow hw 79 rfl) (ow hw 21 rfl) (ow hw 22 rfl) e0 (g := (mkF m 1 #[oa b, oi 16] [(.ref b)])) rfl (by rw [hml]; rfl) rfl (hb hby d14_1) (by decide) (W := 0) (Nat.le_of_eq rfl) (by decide)
  obtain ⟨T2, X2, e2, st2⟩ := getS2 X1 hx hZ hown (host := "") (Or.inl (ow hw 80 rfl)) Via.refl e1 (Cs.ext Ox.2) (g := (mkF m 4 #[oa b, oi 16] [])) rfl (hb hby d14_4)
  obtain ⟨T3, h3, k3, X3, e3, E3, A3, st3⟩ := newP X2 hx hZ (ow hw 15 rfl) e2 (g := (mkF m 12 #[oa b, oi 16] [(.int 16), (.ref b)])) rfl (hb hby d14_12) rfl (by decide) (cap := 16) (by decide) (by decide) (by decide) (by decide)
  obtain ⟨b3, g3⟩ : ∃ z, z = h0.size := ⟨_, rfl⟩
  rw [← g3] at A3 st3
  have ne4 := own_nb Eb.lt g3
  have gn_b3 : n0 ≤ b3 := Nat.le_trans Z0 (Nat.le_of_eq g3.symm)
  have sz_b3 : h0.size ≤ b3 := Nat.le_trans (Keep.refl h0 [b]).1 (Nat.le_of_eq g3.symm)
  have Z5 : n0 ≤ h3.size := Nat.le_trans Z0 E3.1
  have K6 : Keep h0 h3 [b] := (Keep.refl h0 [b]).ext E3
  have V3 : Arv Z h3 b3 k3 .byte (16 : Int32) [] (.int 0) := (Arv.new A3 (by decide)).pad (pad_rep [] (.int 0) 0)
  have fa7 := (Bv.ext E3)
  have fa8 := (Eb.ext E3)
  obtain ⟨T9, h9, X9, e9, W9, st9⟩ := putF X3 hx hZ hown (host := "") (Or.inl (ow hw 81 rfl)) Via.refl e3 fa7 fa8 (Or.inl (ow hw 82 rfl)) (ow hw 68 rfl) (ty := (.array .byte)) (by decide) rfl rfl (g := (mkF m 14 #[oa b, oi 16] [(.ref b3), (.ref b)])) rfl rfl (hb hby d14_14)
  have fw9 : Fld Z h9 b oA "value" "[B" (.ref b3) := fa7.same W9
  have Z10 : n0 ≤ h9.size := Nat.le_trans Z5 (Nat.le_of_eq W9.size.symm)
  have K11 : Keep h0 h9 [b] := K6.wr W9 (Or.inl (List.mem_of_getElem? (i := 0) rfl))
  have N9 := Fr.snoc X9 N0 gb
  have fa12 := ((Bc.ext E3).other W9 (Or.inr (slot_ne (Or.inl (ow hw 84 rfl)) (Or.inl (ow hw 82 rfl)) (by decide) (t := .byte) (t' := (.array .byte)) (by decide) (by decide))))
  have fa13 := (fa8.wr W9)
  obtain ⟨T14, h14, X14, e14, W14, st14⟩ := putFN X9 hx hZ hown (ow hw 83 rfl) Via.refl e9 fa12 fa13 (Or.inl (ow hw 84 rfl)) (ow hw 68 rfl) (ty := .byte) (v' := (.int 0)) (by decide) rfl (by decide) (g := (mkF m 19 #[oa b, oi 16] [(.int 0), (.ref b)])) rfl rfl (hb hby d14_19)
  have fw14 : Fld Z h14 b oA "coder" "B" (.int 0) := fa12.same W14
  have Z15 : n0 ≤ h14.size := Nat.le_trans Z10 (Nat.le_of_eq W14.size.symm)
  have K16 : Keep h0 h14 [b] := K11.wr W14 (Or.inl (List.mem_of_getElem? (i := 0) rfl))
  have N14 := Fr.snoc X14 N9 gb
  obtain ⟨fsZ, hrZ, hrun, hended, hW, hsame⟩ := X14.leave (v := none) (fun _ => rfl)
  have fa17 := (fa13.wr W14)
  have fa18 := (fw9.other W14 (Or.inr (slot_ne (Or.inl (ow hw 82 rfl)) (Or.inl (ow hw 84 rfl)) (by decide) (t := (.array .byte)) (t' := .byte) (by decide) (by decide))))
  have fa19 := (((Bn.ext E3).other W9 (Or.inr (slot_ne (Or.inl (ow hw 106 rfl)) (Or.inl (ow hw 82 rfl)) (by decide) (t := .int) (t' := (.array .byte)) (by decide) (by decide)))).other W14 (Or.inr (slot_ne (Or.inl (ow hw 106 rfl)) (Or.inl (ow hw 84 rfl)) (by decide) (t := .int) (t' := .byte) (by decide) (by decide))))
  have fa20 := (((Bm.ext E3).other W9 (Or.inr (slot_ne (Or.inl (ow hw 255 rfl)) (Or.inl (ow hw 82 rfl)) (by decide) (t := .boolean) (t' := (.array .byte)) (by decide) (by decide)))).other W14 (Or.inr (slot_ne (Or.inl (ow hw 255 rfl)) (Or.inl (ow hw 84 rfl)) (by decide) (t := .boolean) (t' := .byte) (by decide) (by decide))))
  have fa21 := ((V3.other W9 (Ne.symm ne4)).other W14 (Ne.symm ne4))
  refine ⟨_, _, pre0 _ ?_, hrun, hended, _, _, rfl, ?_, ⟨_, rfl⟩, hW, hsame.mono (by decide) (by decide)⟩
  · show Steps _ _ _ (s₁.setTop (mkF m 0 #[oa b, oi 16] [])) _
    refine XS.aloadN X0.here hx rfl (hb hby d14_0) rfl rfl ?_
    refine st1 _ ?_
    refine st2 _ ?_
    refine XS.ifNo X2.here hx rfl (hb hby d14_7) rfl ((if0 _ _).trans (feq hcs).1) ?_
    refine XS.aloadN X2.here hx rfl (hb hby d14_10) rfl rfl ?_
    refine XS.iloadN X2.here hx rfl (hb hby d14_11) rfl  ?_
    refine st3 _ ?_
    refine st9 _ ?_
    show Steps _ _ _ (T9.setTop (mkF m 17 #[oa b, oi 16] [])) _
    refine XS.aloadN X9.here hx rfl (hb hby d14_17) rfl rfl ?_
    refine XS.iconst X9.here hx rfl (hb hby d14_18) ?_
    refine st14 _ ?_
    refine XS.goto X14.here hx rfl (pc0 := 22) (pc' := 38) rfl (hb hby d14_22) (by decide) (by decide) ?_
    show Steps _ _ _ (T14.setTop (mkF m 38 #[oa b, oi 16] [])) _
    exact X14.returnOut hx Bd.returns (hb hby d14_38) hrZ
  · show Q14 Z b w1 w2 cs h0 n0 _ T14.heap _
    rw [e14]
    exact ⟨b3, k3, rfl, N14, K16, gn_b3, sz_b3, fa17, fa18, fw14, fa19, fa20, fa21⟩
theorem pn24 : plainName "java/lang/StringBuilder" = true := by first | (simp [plainName, overriddenIn]; done) | decide +kernel
theorem d13_0 : decode zc29 0 = .ok (.aload_n 0, 1) := by decide +kernel
theorem d13_1 : decode zc29 1 = .ok (.bipush 16, 2) := by decide +kernel
theorem d13_3 : decode zc29 3 = .ok (.invokespecial 1, 3) := by decide +kernel
theorem pd25 : parseMethodDescriptor "(I)V" = some ⟨[.int], none⟩ := by decide +kernel
theorem d13_6 : decode zc29 6 = .ok (.return_, 1) := by decide +kernel
theorem ef13 (m : MethodId) (b : Addr) : entryFrame m #[(.ref b)] 1 = mkF m 0 #[oa b] [] := by first | (simp [entryFrame, mkF, argsToLocals, Value.category]; done) | rfl
def Q13 (Z : State) (b : Addr) (w1 : Value) (w2 : Value) (cs : Int32) (h0 : Heap) (n0 : Nat) (v : Option Value) (h : Heap) (L : List Loc) : Prop := ∃ (va : Addr) (kv : ClassId), v = none ∧ Fr n0 L ∧ Keep h0 h [b] ∧ n0 ≤ va ∧ h0.size ≤ va ∧ Exa Z h b oB ∧ Fld Z h b oA "value" "[B" (.ref va) ∧ Fld Z h b oA "coder" "B" (.int 0) ∧ Fld Z h b oA "count" "I" (.int 0) ∧ Fld Z h b oA "maybeLatin1" "Z" (.int 0) ∧ Arv Z h va kv .byte (16 : Int32) [] (.int 0)
theorem rm13 (l : Launch) (Z : State) (a0 : Array Value) (hw : ∀ d ∈ tables_1, d.before a0 Z = true) (ws : List Jvm.Cond) (b : Addr) (w1 : Value) (w2 : Value) (cs : Int32) (h0 : Heap) (n0 : Nat) (Z0 : n0 ≤ h0.size) (Eb : Exa Z h0 b oB) (Bv : Fld Z h0 b oA "value" "[B" w1) (Bc : Fld Z h0 b oA "coder" "B" w2) (Bn : Fld Z h0 b oA "count" "I" (.int 0)) (Bm : Fld Z h0 b oA "maybeLatin1" "Z" (.int 0)) (gb : n0 ≤ b) (Cs : Sta Z Z.heap oS "COMPACT_STRINGS" "Z" (.int cs)) (hcs : ¬ (cs = (0 : Int32))) (Ox : Old Z n0 h0) :
    MetFree l oM29 (head1 (Jvm.Cond.code oM29 zc29 1 none :: ws) oR21) (fun a U => a = #[(.ref b)] ∧ Z.Warmed39 U.vm ∧ U.heap = h0) (fun _ _ _ _ _ => True) (fun _ U o U' => ∃ v L, o = .returned v ∧ Q13 Z b w1 w2 cs h0 n0 v U'.heap L ∧ FrameEnd U o U' L oR21.cells oR21.slots) := by
  refine MetFree.of_bodySF (plainFor_of_name pn24) hisR ?_
  intro p e s m args below meth c s₁ Bd hml0 hP hK
  obtain ⟨rfl, hZ, hh⟩ := hP
  have hx := Bd.exec
  have hby := Bd.bytes
  have hml : c.maxLocals = 1 := hml0
  have hown : s.vm.findClass oB = some m.cls := findClass_of_methodNamed Bd.named
  have X0 : Stand p l e oR21 s m #[(.ref b)] below meth c s₁ [] 0 0 := Stand.of_body Bd
  have e0 : s₁.heap = h0 := by rw [← hh, Bd.state]; rfl
  have N0 := Fr.nil n0
  have pre0 := own_pre (p := p) (e := e) (below := below) (s₁ := s₁) (ef13 m b)
  obtain ⟨_, _, ⟨T1, L1, k1, n1⟩, -, X1, ⟨Lc1, hQ1, l1, y1, z1⟩, st1⟩ := X0.specialBack hx (y := oM28) rfl hown (mvT hZ (ow hw 73 rfl)) (mvT hZ (ow hw 74 rfl)) (mvT hZ (ow hw 78 rfl)) (by decide) (backOf (W := 0) (rm14 l Z a0 hw [] b w1 w2 cs h0 n0 Z0 Eb Bv Bc Bn Bm gb Cs hcs Ox) hZ (ow hw 78 rfl) (ow hw 77 rfl) (by decide) (by decide)) (g := (mkF m 3 #[oa b] [(.int 16), (.ref b)])) rfl (by rw [hml]; rfl) (Steps.refl _) (a := b) (argsL := [(.int 16)]) (rest := []) (lenOf pd25 rfl) rfl (Nat.le_of_eq rfl) (hb hby d13_3) (fun _ _ => ⟨rfl, e0, (by decide : 0 + 1 ≤ _), (by decide : 0 + 16 ≤ _)⟩)
  dsimp only [Pt.U, Pt.locs, Pt.cells, Pt.slots] at X1 l1 y1 z1 st1 hQ1
  subst l1 y1 z1
  obtain ⟨va_2, kv_3, rfl, N1q, K1, u1_0, u1_1, f1_0, f1_1, f1_2, f1_3, f1_4, f1_5⟩ := hQ1
  have N1 := Fr.app N0 N1q
  have Z4 : n0 ≤ T1.heap.size := Nat.le_trans Z0 K1.1
  have K5 : Keep h0 T1.heap [b] := (Keep.refl h0 [b]).trans K1 (allS (P := fun x => x ∈ _ ∨ _) (Or.inl (List.mem_of_getElem? (i := 0) rfl)) all0)
  have ne6 := own_nc Eb.lt u1_1
  have sz_va_2 : h0.size ≤ va_2 := Nat.le_trans (Keep.refl h0 [b]).1 u1_1
  obtain ⟨fsZ, hrZ, hrun, hended, hW, hsame⟩ := X1.leave (v := none) (fun _ => rfl)
  refine ⟨_, _, pre0 _ ?_, hrun, hended, _, _, rfl, ?_, ⟨_, rfl⟩, hW, hsame.mono (by decide) (by decide)⟩
  · show Steps _ _ _ (s₁.setTop (mkF m 0 #[oa b] [])) _
    refine XS.aloadN X0.here hx rfl (hb hby d13_0) rfl rfl ?_
    refine XS.bipush X0.here hx rfl (hb hby d13_1) ?_
    refine st1.trans ?_
    show Steps _ _ _ (T1.setTop (mkF m 6 #[oa b] [])) _
    exact X1.returnOut hx Bd.returns (hb hby d13_6) hrZ
  · show Q13 Z b w1 w2 cs h0 n0 _ T1.heap _
    exact ⟨va_2, kv_3, rfl, N1, K5, u1_0, sz_va_2, f1_0, f1_1, f1_2, f1_3, f1_4, f1_5⟩
theorem d29_0 : decode zc30 0 = .ok (.getstatic 18, 3) := by decide +kernel
theorem d29_3 : decode zc30 3 = .ok (.ifCond .eq 14, 3) := by decide +kernel
theorem d29_6 : decode zc30 6 = .ok (.aload_n 0, 1) := by decide +kernel
theorem d29_7 : decode zc30 7 = .ok (.getfield 22, 3) := by decide +kernel
theorem d29_10 : decode zc30 10 = .ok (.ifCond .ne 7, 3) := by decide +kernel
theorem d29_13 : decode zc30 13 = .ok (.iconst 1, 1) := by decide +kernel
theorem d29_14 : decode zc30 14 = .ok (.goto 4, 3) := by decide +kernel
theorem d29_18 : decode zc30 18 = .ok (.ireturn, 1) := by decide +kernel
theorem ef29k0 (m : MethodId) (b : Addr) : entryFrame m #[(.ref b)] 1 = mkF m 0 #[oa b] [] := by first | (simp [entryFrame, mkF, argsToLocals, Value.category]; done) | rfl
def Q29k0 (Z : State) (b : Addr) (cs : Int32) (h0 : Heap) (n0 : Nat) (v : Option Value) (h : Heap) (L : List Loc) : Prop := v = some (.int 1) ∧ Fr n0 L ∧ h = h0
theorem rm29k0 (l : Launch) (Z : State) (a0 : Array Value) (hw : ∀ d ∈ tables_1, d.before a0 Z = true) (ws : List Jvm.Cond) (b : Addr) (cs : Int32) (h0 : Heap) (n0 : Nat) (Z0 : n0 ≤ h0.size) (Bc : Fld Z h0 b oA "coder" "B" (.int 0)) (Cs : Sta Z Z.heap oS "COMPACT_STRINGS" "Z" (.int cs)) (hcs : ¬ (cs = (0 : Int32))) (Ox : Old Z n0 h0) :
    MetFree l oM30 (head1 (Jvm.Cond.code oM30 zc30 1 (some .boolean) :: ws) oR0) (fun a U => a = #[(.ref b)] ∧ Z.Warmed39 U.vm ∧ U.heap = h0) (fun _ _ _ _ _ => True) (fun _ U o U' => ∃ v L, o = .returned v ∧ Q29k0 Z b cs h0 n0 v U'.heap L ∧ FrameEnd U o U' L oR0.cells oR0.slots) := by
  refine MetFree.of_bodySF (plainFor_of_name pn23) hisR ?_
  intro p e s m args below meth c s₁ Bd hml0 hP hK
  obtain ⟨rfl, hZ, hh⟩ := hP
  have hx := Bd.exec
  have hby := Bd.bytes
  have hml : c.maxLocals = 1 := hml0
  have hown : s.vm.findClass oA = some m.cls := findClass_of_methodNamed Bd.named
  have X0 : Stand p l e oR0 s m #[(.ref b)] below meth c s₁ [] 0 0 := Stand.of_body Bd
  have e0 : s₁.heap = h0 := by rw [← hh, Bd.state]; rfl
  have N0 := Fr.nil n0
  have pre0 := own_pre (p := p) (e := e) (below := below) (s₁ := s₁) (ef29k0 m b)
  obtain ⟨T1, X1, e1, st1⟩ := getS2 X0 hx hZ hown (host := "") (Or.inl (ow hw 80 rfl)) Via.refl e0 (Cs.ext Ox.2) (g := (mkF m 0 #[oa b] [])) rfl (hb hby d29_0)
  obtain ⟨T2, X2, e2, st2⟩ := getF X1 hx hZ hown (host := "") (Or.inl (ow hw 83 rfl)) Via.refl e1 Bc (g := (mkF m 7 #[oa b] [(.ref b)])) rfl rfl (hb hby d29_7)
  obtain ⟨fsZ, hrZ, hrun, hended, hW, hsame⟩ := X2.leave (v := some (.int 1)) (fun h => by rw [Bd.returns] at h; cases h)
  refine ⟨_, _, pre0 _ ?_, hrun, hended, _, _, rfl, ?_, ⟨_, rfl⟩, hW, hsame.mono (by decide) (by decide)⟩
  · show Steps _ _ _ (s₁.setTop (mkF m 0 #[oa b] [])) _
    refine st1 _ ?_
    refine XS.ifNo X1.here hx rfl (hb hby d29_3) rfl ((if0 _ _).trans (feq hcs).1) ?_
    refine XS.aloadN X1.here hx rfl (hb hby d29_6) rfl rfl ?_
    refine st2 _ ?_
    refine XS.ifNo X2.here hx rfl (hb hby d29_10) rfl ((if0 _ _).trans (teq (by decide)).2) ?_
    refine XS.iconst X2.here hx rfl (hb hby d29_13) ?_
    refine XS.goto X2.here hx rfl (pc0 := 14) (pc' := 18) rfl (hb hby d29_14) (by decide) (by decide) ?_
    show Steps _ _ _ (T2.setTop (mkF m 18 #[oa b] [(.int 1)])) _
    exact retN X2 hx (t := .boolean) Bd.returns (by simp) (hb hby d29_18) hrZ
  · show Q29k0 Z b cs h0 n0 _ T2.heap _
    rw [e2]
    exact ⟨rfl, N0, rfl⟩
theorem d29_17 : decode zc30 17 = .ok (.iconst 0, 1) := by decide +kernel
theorem ef29k1 (m : MethodId) (b : Addr) : entryFrame m #[(.ref b)] 1 = mkF m 0 #[oa b] [] := by first | (simp [entryFrame, mkF, argsToLocals, Value.category]; done) | rfl
def Q29k1 (Z : State) (b : Addr) (cs : Int32) (h0 : Heap) (n0 : Nat) (v : Option Value) (h : Heap) (L : List Loc) : Prop := v = some (.int 0) ∧ Fr n0 L ∧ h = h0
theorem rm29k1 (l : Launch) (Z : State) (a0 : Array Value) (hw : ∀ d ∈ tables_1, d.before a0 Z = true) (ws : List Jvm.Cond) (b : Addr) (cs : Int32) (h0 : Heap) (n0 : Nat) (Z0 : n0 ≤ h0.size) (Bc : Fld Z h0 b oA "coder" "B" (.int 1)) (Cs : Sta Z Z.heap oS "COMPACT_STRINGS" "Z" (.int cs)) (hcs : ¬ (cs = (0 : Int32))) (Ox : Old Z n0 h0) :
    MetFree l oM30 (head1 (Jvm.Cond.code oM30 zc30 1 (some .boolean) :: ws) oR0) (fun a U => a = #[(.ref b)] ∧ Z.Warmed39 U.vm ∧ U.heap = h0) (fun _ _ _ _ _ => True) (fun _ U o U' => ∃ v L, o = .returned v ∧ Q29k1 Z b cs h0 n0 v U'.heap L ∧ FrameEnd U o U' L oR0.cells oR0.slots) := by
  refine MetFree.of_bodySF (plainFor_of_name pn23) hisR ?_
  intro p e s m args below meth c s₁ Bd hml0 hP hK
  obtain ⟨rfl, hZ, hh⟩ := hP
  have hx := Bd.exec
  have hby := Bd.bytes
  have hml : c.maxLocals = 1 := hml0
  have hown : s.vm.findClass oA = some m.cls := findClass_of_methodNamed Bd.named
  have X0 : Stand p l e oR0 s m #[(.ref b)] below meth c s₁ [] 0 0 := Stand.of_body Bd
  have e0 : s₁.heap = h0 := by rw [← hh, Bd.state]; rfl
  have N0 := Fr.nil n0
  have pre0 := own_pre (p := p) (e := e) (below := below) (s₁ := s₁) (ef29k1 m b)
  obtain ⟨T1, X1, e1, st1⟩ := getS2 X0 hx hZ hown (host := "") (Or.inl (ow hw 80 rfl)) Via.refl e0 (Cs.ext Ox.2) (g := (mkF m 0 #[oa b] [])) rfl (hb hby d29_0)
  obtain ⟨T2, X2, e2, st2⟩ := getF X1 hx hZ hown (host := "") (Or.inl (ow hw 83 rfl)) Via.refl e1 Bc (g := (mkF m 7 #[oa b] [(.ref b)])) rfl rfl (hb hby d29_7)
  obtain ⟨fsZ, hrZ, hrun, hended, hW, hsame⟩ := X2.leave (v := some (.int 0)) (fun h => by rw [Bd.returns] at h; cases h)
  refine ⟨_, _, pre0 _ ?_, hrun, hended, _, _, rfl, ?_, ⟨_, rfl⟩, hW, hsame.mono (by decide) (by decide)⟩
  · show Steps _ _ _ (s₁.setTop (mkF m 0 #[oa b] [])) _
    refine st1 _ ?_
    refine XS.ifNo X1.here hx rfl (hb hby d29_3) rfl ((if0 _ _).trans (feq hcs).1) ?_
    refine XS.aloadN X1.here hx rfl (hb hby d29_6) rfl rfl ?_
    refine st2 _ ?_
    refine XS.ifYes X2.here hx rfl (pc0 := 10) (pc' := 17) rfl (hb hby d29_10) rfl ((if0 _ _).trans (feq (by decide)).2) (by decide) (by decide) ?_
    refine XS.iconst X2.here hx rfl (hb hby d29_17) ?_
    show Steps _ _ _ (T2.setTop (mkF m 18 #[oa b] [(.int 0)])) _
    exact retN X2 hx (t := .boolean) Bd.returns (by simp) (hb hby d29_18) hrZ
  · show Q29k1 Z b cs h0 n0 _ T2.heap _
    rw [e2]
    exact ⟨rfl, N0, rfl⟩
theorem d19_0 : decode zc31 0 = .ok (.aload_n 0, 1) := by decide +kernel
theorem d19_1 : decode zc31 1 = .ok (.getfield 15, 3) := by decide +kernel
theorem d19_4 : decode zc31 4 = .ok (.arraylength, 1) := by decide +kernel
theorem d19_5 : decode zc31 5 = .ok (.aload_n 0, 1) := by decide +kernel
theorem d19_6 : decode zc31 6 = .ok (.getfield 22, 3) := by decide +kernel
theorem d19_9 : decode zc31 9 = .ok (.ishr, 1) := by decide +kernel
theorem d19_10 : decode zc31 10 = .ok (.istore_n 2, 1) := by decide +kernel
theorem d19_11 : decode zc31 11 = .ok (.iload_n 1, 1) := by decide +kernel
theorem d19_12 : decode zc31 12 = .ok (.iload_n 2, 1) := by decide +kernel
theorem d19_13 : decode zc31 13 = .ok (.isub, 1) := by decide +kernel
theorem d19_14 : decode zc31 14 = .ok (.ifCond .le 24, 3) := by decide +kernel
theorem d19_38 : decode zc31 38 = .ok (.return_, 1) := by decide +kernel
theorem ef19k0 (m : MethodId) (b : Addr) (mc : Int32) : entryFrame m #[(.ref b), (.int mc)] 3 = mkF m 0 #[oa b, oi mc, .unset] [] := by first | (simp [entryFrame, mkF, argsToLocals, Value.category]; done) | rfl
def Q19k0 (Z : State) (b : Addr) (mc : Int32) (va : Addr) (kv : ClassId) (xs : List Value) (h0 : Heap) (n0 : Nat) (v : Option Value) (h : Heap) (L : List Loc) : Prop := v = none ∧ Fr n0 L ∧ h = h0
theorem rm19k0 (l : Launch) (Z : State) (a0 : Array Value) (hw : ∀ d ∈ tables_1, d.before a0 Z = true) (ws : List Jvm.Cond) (b : Addr) (mc : Int32) (va : Addr) (kv : ClassId) (xs : List Value) (h0 : Heap) (n0 : Nat) (Z0 : n0 ≤ h0.size) (Bv : Fld Z h0 b oA "value" "[B" (.ref va)) (Bc : Fld Z h0 b oA "coder" "B" (.int 0)) (Vx : Arv Z h0 va kv .byte (16 : Int32) xs (.int 0)) (hm : ¬ ((0 : Int32) < (mc - (16 : Int32)))) :
    MetFree l oM31 (head1 (Jvm.Cond.code oM31 zc31 3 none :: ws) oR0) (fun a U => a = #[(.ref b), (.int mc)] ∧ Z.Warmed39 U.vm ∧ U.heap = h0) (fun _ _ _ _ _ => True) (fun _ U o U' => ∃ v L, o = .returned v ∧ Q19k0 Z b mc va kv xs h0 n0 v U'.heap L ∧ FrameEnd U o U' L oR0.cells oR0.slots) := by
  refine MetFree.of_bodySF (plainFor_of_name pn23) hisR ?_
  intro p e s m args below meth c s₁ Bd hml0 hP hK
  obtain ⟨rfl, hZ, hh⟩ := hP
  have hx := Bd.exec
  have hby := Bd.bytes
  have hml : c.maxLocals = 3 := hml0
  have hown : s.vm.findClass oA = some m.cls := findClass_of_methodNamed Bd.named
  have X0 : Stand p l e oR0 s m #[(.ref b), (.int mc)] below meth c s₁ [] 0 0 := Stand.of_body Bd
  have e0 : s₁.heap = h0 := by rw [← hh, Bd.state]; rfl
  have N0 := Fr.nil n0
  have pre0 := own_pre (p := p) (e := e) (below := below) (s₁ := s₁) (ef19k0 m b mc)
  obtain ⟨T1, X1, e1, st1⟩ := getF X0 hx hZ hown (host := "") (Or.inl (ow hw 81 rfl)) Via.refl e0 Bv (g := (mkF m 1 #[oa b, oi mc, .unset] [(.ref b)])) rfl rfl (hb hby d19_1)
  obtain ⟨c2, Arc2, -, Sc2, Mc2, -, -⟩ := id Vx
  obtain ⟨T3, X3, e3, st3⟩ := getF X1 hx hZ hown (host := "") (Or.inl (ow hw 83 rfl)) Via.refl e1 Bc (g := (mkF m 6 #[oa b, oi mc, .unset] [(.ref b), (.int 16)])) rfl rfl (hb hby d19_6)
  obtain ⟨fsZ, hrZ, hrun, hended, hW, hsame⟩ := X3.leave (v := none) (fun _ => rfl)
  refine ⟨_, _, pre0 _ ?_, hrun, hended, _, _, rfl, ?_, ⟨_, rfl⟩, hW, hsame.mono (by decide) (by decide)⟩
  · show Steps _ _ _ (s₁.setTop (mkF m 0 #[oa b, oi mc, .unset] [])) _
    refine XS.aloadN X0.here hx rfl (hb hby d19_0) rfl rfl ?_
    refine st1 _ ?_
    show Steps _ _ _ (T1.setTop (mkF m 4 #[oa b, oi mc, .unset] [(.ref va)])) _
    refine X1.arraylength hx (by rw [e1]; exact Arc2.1) (State.isArrayOf_alike hZ.alike Arc2.2.1) (g := (mkF m 4 #[oa b, oi mc, .unset] [(.ref va)])) rfl rfl (hb hby d19_4) _ ?_
    rw [len_of Sc2 Mc2]
    show Steps _ _ _ (T1.setTop (mkF m 5 #[oa b, oi mc, .unset] [(.int 16)])) _
    refine XS.aloadN X1.here hx rfl (hb hby d19_5) rfl rfl ?_
    refine st3 _ ?_
    refine XS.ishr X3.here hx rfl (hb hby d19_9) rfl ?_
    show Steps _ _ _ (T3.setTop (mkF m 10 #[oa b, oi mc, .unset] [(.int ((16 : Int32) >>> ((0 : Int32) &&& 31)))])) _
    rw [show ((16 : Int32) >>> ((0 : Int32) &&& 31)) = (16 : Int32) from by decide]
    show Steps _ _ _ (T3.setTop (mkF m 10 #[oa b, oi mc, .unset] [(.int 16)])) _
    refine XS.istoreN X3.here hx rfl (hb hby d19_10) rfl (l' := #[oa b, oi mc, oi 16]) rfl ?_
    refine XS.iloadN X3.here hx rfl (hb hby d19_11) rfl  ?_
    refine XS.iloadN X3.here hx rfl (hb hby d19_12) rfl  ?_
    refine XS.isub X3.here hx rfl (hb hby d19_13) rfl ?_
    refine XS.ifYes X3.here hx rfl (pc0 := 14) (pc' := 38) rfl (hb hby d19_14) rfl ((if0 _ _).trans (flt hm).2.2.2) (by decide) (by decide) ?_
    show Steps _ _ _ (T3.setTop (mkF m 38 #[oa b, oi mc, oi 16] [])) _
    exact X3.returnOut hx Bd.returns (hb hby d19_38) hrZ
  · show Q19k0 Z b mc va kv xs h0 n0 _ T3.heap _
    rw [e3]
    exact ⟨rfl, N0, rfl⟩
theorem ef19k1 (m : MethodId) (b : Addr) (mc : Int32) : entryFrame m #[(.ref b), (.int mc)] 3 = mkF m 0 #[oa b, oi mc, .unset] [] := by first | (simp [entryFrame, mkF, argsToLocals, Value.category]; done) | rfl
def Q19k1 (Z : State) (b : Addr) (mc : Int32) (va : Addr) (kv : ClassId) (xs : List Value) (h0 : Heap) (n0 : Nat) (v : Option Value) (h : Heap) (L : List Loc) : Prop := v = none ∧ Fr n0 L ∧ h = h0
theorem rm19k1 (l : Launch) (Z : State) (a0 : Array Value) (hw : ∀ d ∈ tables_1, d.before a0 Z = true) (ws : List Jvm.Cond) (b : Addr) (mc : Int32) (va : Addr) (kv : ClassId) (xs : List Value) (h0 : Heap) (n0 : Nat) (Z0 : n0 ≤ h0.size) (Bv : Fld Z h0 b oA "value" "[B" (.ref va)) (Bc : Fld Z h0 b oA "coder" "B" (.int 1)) (Vx : Arv Z h0 va kv .byte (32 : Int32) xs (.int 0)) (hm : ¬ ((0 : Int32) < (mc - (16 : Int32)))) :
    MetFree l oM31 (head1 (Jvm.Cond.code oM31 zc31 3 none :: ws) oR0) (fun a U => a = #[(.ref b), (.int mc)] ∧ Z.Warmed39 U.vm ∧ U.heap = h0) (fun _ _ _ _ _ => True) (fun _ U o U' => ∃ v L, o = .returned v ∧ Q19k1 Z b mc va kv xs h0 n0 v U'.heap L ∧ FrameEnd U o U' L oR0.cells oR0.slots) := by
  refine MetFree.of_bodySF (plainFor_of_name pn23) hisR ?_
  intro p e s m args below meth c s₁ Bd hml0 hP hK
  obtain ⟨rfl, hZ, hh⟩ := hP
  have hx := Bd.exec
  have hby := Bd.bytes
  have hml : c.maxLocals = 3 := hml0
  have hown : s.vm.findClass oA = some m.cls := findClass_of_methodNamed Bd.named
  have X0 : Stand p l e oR0 s m #[(.ref b), (.int mc)] below meth c s₁ [] 0 0 := Stand.of_body Bd
  have e0 : s₁.heap = h0 := by rw [← hh, Bd.state]; rfl
  have N0 := Fr.nil n0
  have pre0 := own_pre (p := p) (e := e) (below := below) (s₁ := s₁) (ef19k1 m b mc)
  obtain ⟨T1, X1, e1, st1⟩ := getF X0 hx hZ hown (host := "") (Or.inl (ow hw 81 rfl)) Via.refl e0 Bv (g := (mkF m 1 #[oa b, oi mc, .unset] [(.ref b)])) rfl rfl (hb hby d19_1)
  obtain ⟨c2, Arc2, -, Sc2, Mc2, -, -⟩ := id Vx
  obtain ⟨T3, X3, e3, st3⟩ := getF X1 hx hZ hown (host := "") (Or.inl (ow hw 83 rfl)) Via.refl e1 Bc (g := (mkF m 6 #[oa b, oi mc, .unset] [(.ref b), (.int 32)])) rfl rfl (hb hby d19_6)
  obtain ⟨fsZ, hrZ, hrun, hended, hW, hsame⟩ := X3.leave (v := none) (fun _ => rfl)
  refine ⟨_, _, pre0 _ ?_, hrun, hended, _, _, rfl, ?_, ⟨_, rfl⟩, hW, hsame.mono (by decide) (by decide)⟩
  · show Steps _ _ _ (s₁.setTop (mkF m 0 #[oa b, oi mc, .unset] [])) _
    refine XS.aloadN X0.here hx rfl (hb hby d19_0) rfl rfl ?_
    refine st1 _ ?_
    show Steps _ _ _ (T1.setTop (mkF m 4 #[oa b, oi mc, .unset] [(.ref va)])) _
    refine X1.arraylength hx (by rw [e1]; exact Arc2.1) (State.isArrayOf_alike hZ.alike Arc2.2.1) (g := (mkF m 4 #[oa b, oi mc, .unset] [(.ref va)])) rfl rfl (hb hby d19_4) _ ?_
    rw [len_of Sc2 Mc2]
    show Steps _ _ _ (T1.setTop (mkF m 5 #[oa b, oi mc, .unset] [(.int 32)])) _
    refine XS.aloadN X1.here hx rfl (hb hby d19_5) rfl rfl ?_
    refine st3 _ ?_
    refine XS.ishr X3.here hx rfl (hb hby d19_9) rfl ?_
    show Steps _ _ _ (T3.setTop (mkF m 10 #[oa b, oi mc, .unset] [(.int ((32 : Int32) >>> ((1 : Int32) &&& 31)))])) _
    rw [show ((32 : Int32) >>> ((1 : Int32) &&& 31)) = (16 : Int32) from by decide]
    show Steps _ _ _ (T3.setTop (mkF m 10 #[oa b, oi mc, .unset] [(.int 16)])) _
    refine XS.istoreN X3.here hx rfl (hb hby d19_10) rfl (l' := #[oa b, oi mc, oi 16]) rfl ?_
    refine XS.iloadN X3.here hx rfl (hb hby d19_11) rfl  ?_
    refine XS.iloadN X3.here hx rfl (hb hby d19_12) rfl  ?_
    refine XS.isub X3.here hx rfl (hb hby d19_13) rfl ?_
    refine XS.ifYes X3.here hx rfl (pc0 := 14) (pc' := 38) rfl (hb hby d19_14) rfl ((if0 _ _).trans (flt hm).2.2.2) (by decide) (by decide) ?_
    show Steps _ _ _ (T3.setTop (mkF m 38 #[oa b, oi mc, oi 16] [])) _
    exact X3.returnOut hx Bd.returns (hb hby d19_38) hrZ
  · show Q19k1 Z b mc va kv xs h0 n0 _ T3.heap _
    rw [e3]
    exact ⟨rfl, N0, rfl⟩
theorem d48_0 : decode zc32 0 = .ok (.iload_n 3, 1) := by decide +kernel
theorem d48_1 : decode zc32 1 = .ok (.iload 4, 2) := by decide +kernel
theorem d48_3 : decode zc32 3 = .ok (.aload_n 2, 1) := by decide +kernel
theorem d48_4 : decode zc32 4 = .ok (.invokestatic 173, 3) := by decide +kernel
theorem pd26 : parseMethodDescriptor "(II[B)V" = some ⟨[.int, .int, (.array .byte)], none⟩ := by decide +kernel
theorem d48_7 : decode zc32 7 = .ok (.iconst 0, 1) := by decide +kernel
theorem d48_8 : decode zc32 8 = .ok (.istore 5, 2) := by decide +kernel
theorem d48_10 : decode zc32 10 = .ok (.iload 5, 2) := by decide +kernel
theorem d48_12 : decode zc32 12 = .ok (.iload 4, 2) := by decide +kernel
theorem d48_14 : decode zc32 14 = .ok (.if_icmp .ge 27, 3) := by decide +kernel
theorem d48_17 : decode zc32 17 = .ok (.aload_n 2, 1) := by decide +kernel
theorem d48_18 : decode zc32 18 = .ok (.iload_n 3, 1) := by decide +kernel
theorem d48_19 : decode zc32 19 = .ok (.iinc 3 1, 3) := by decide +kernel
theorem d48_22 : decode zc32 22 = .ok (.aload_n 0, 1) := by decide +kernel
theorem d48_23 : decode zc32 23 = .ok (.iload_n 1, 1) := by decide +kernel
theorem d48_24 : decode zc32 24 = .ok (.iinc 1 1, 3) := by decide +kernel
theorem d48_27 : decode zc32 27 = .ok (.baload, 1) := by decide +kernel
theorem d48_28 : decode zc32 28 = .ok (.sipush 255, 3) := by decide +kernel
theorem d48_31 : decode zc32 31 = .ok (.iand, 1) := by decide +kernel
theorem d48_32 : decode zc32 32 = .ok (.invokestatic 111, 3) := by decide +kernel
theorem d48_35 : decode zc32 35 = .ok (.iinc 5 1, 3) := by decide +kernel
theorem d48_38 : decode zc32 38 = .ok (.goto (-28), 3) := by decide +kernel
theorem d48_41 : decode zc32 41 = .ok (.return_, 1) := by decide +kernel
theorem ef48 (m : MethodId) (sv : Addr) (va : Addr) (d : Int32) (n : Int32) : entryFrame m #[(.ref sv), (.int 0), (.ref va), (.int d), (.int n)] 6 = mkF m 0 #[oa sv, oi 0, oa va, oi d, oi n, .unset] [] := by first | (simp [entryFrame, mkF, argsToLocals, Value.category]; done) | rfl
def Q48 (Z : State) (sv : Addr) (va : Addr) (d : Int32) (n : Int32) (ks : ClassId) (zs : Int32) (us : List Int32) (kv : ClassId) (z : Int32) (vs : List Value) (fm : Value) (h0 : Heap) (n0 : Nat) (v : Option Value) (h : Heap) (L : List Loc) : Prop := v = none ∧ Fr n0 L ∧ Keep h0 h [va] ∧ Arv Z h va kv .byte z (vs ++ own_ub us) (.int 0)
theorem rm48 (l : Launch) (Z : State) (a0 : Array Value) (hw : ∀ d ∈ tables_1, d.before a0 Z = true) (ws : List Jvm.Cond) (sv : Addr) (va : Addr) (d : Int32) (n : Int32) (ks : ClassId) (zs : Int32) (us : List Int32) (kv : ClassId) (z : Int32) (vs : List Value) (fm : Value) (h0 : Heap) (n0 : Nat) (Z0 : n0 ≤ h0.size) (Vs : Arv Z h0 sv ks .byte zs (own_lb us) (.int 0)) (Vx : Arv Z h0 va kv .byte z vs (.int 0)) (nsv : sv ≠ va) (gx : n0 ≤ va) (Ox : Old Z n0 h0) (Ua : Sta Z Z.heap o6 "$assertionsDisabled" "Z" (.int 1)) (Uh : Sta Z Z.heap o6 "HI_BYTE_SHIFT" "I" (.int 0)) (Ul : Sta Z Z.heap o6 "LO_BYTE_SHIFT" "I" (.int 8)) (Fm : Sta Z Z.heap "jdk/internal/util/Preconditions" "SIOOBE_FORMATTER" "Ljava/util/function/BiFunction;" fm) (hfm : fm.isRef = true) (hn : n.toInt = us.length) (hn16 : n.toInt ≤ 16) (hns : n.toInt ≤ zs.toInt) (hd0 : ¬ (d < (0 : Int32))) (hdv : 2 * d.toNatClampNeg = vs.length) (hz : 2 * (d.toInt + n.toInt) ≤ z.toInt) (hla : own_lat us) (hchs : own_chs us) :
    MetFree l oM32 (head1 (Jvm.Cond.code oM32 zc32 6 none :: ws) oR22) (fun a U => a = #[(.ref sv), (.int 0), (.ref va), (.int d), (.int n)] ∧ Z.Warmed39 U.vm ∧ U.heap = h0) (fun _ _ _ _ _ => True) (fun _ U o U' => ∃ v L, o = .returned v ∧ Q48 Z sv va d n ks zs us kv z vs fm h0 n0 v U'.heap L ∧ FrameEnd U o U' L oR22.cells oR22.slots) := by
  refine MetFree.of_bodySF (plainFor_of_name pn1) hisR ?_
  intro p e s m args below meth c s₁ Bd hml0 hP hK
  obtain ⟨rfl, hZ, hh⟩ := hP
  have hx := Bd.exec
  have hby := Bd.bytes
  have hml : c.maxLocals = 6 := hml0
  have hown : s.vm.findClass o6 = some m.cls := findClass_of_methodNamed Bd.named
  have X0 : Stand p l e oR22 s m #[(.ref sv), (.int 0), (.ref va), (.int d), (.int n)] below meth c s₁ [] 0 0 := Stand.of_body Bd
  have e0 : s₁.heap = h0 := by rw [← hh, Bd.state]; rfl
  have N0 := Fr.nil n0
  have pre0 := own_pre (p := p) (e := e) (below := below) (s₁ := s₁) (ef48 m sv va d n)
  obtain ⟨_, _, ⟨T1, L1, k1, n1⟩, -, X1, ⟨Lc1, hQ1, l1, y1, z1⟩, st1⟩ := Jvm.LawKit.callS X0 hx (y := oM6) hown (mvT hZ (ow hw 241 rfl)) (mvT hZ (ow hw 242 rfl)) (mvT hZ (ow hw 37 rfl)) (mvT hZ (ow hw 243 rfl)) (by decide) (backOf (W := 0) (rm49 l Z a0 hw [] d n va kv z vs fm h0 n0 Z0 Vx Fm hfm Ox (own_bnd hd0 (hn ▸ Int.natCast_nonneg _) hz).1 (own_bnd hd0 (hn ▸ Int.natCast_nonneg _) hz).2) hZ (ow hw 243 rfl) (ow hw 37 rfl) (by decide) (by decide)) (g := (mkF m 4 #[oa sv, oi 0, oa va, oi d, oi n, .unset] [(.ref va), (.int n), (.int d)])) rfl (by rw [hml]; rfl) (argsL := [(.int d), (.int n), (.ref va)]) (rest := []) (lenOf pd26 rfl) rfl (Nat.le_of_eq rfl) (hb hby d48_4) (fun _ _ => ⟨rfl, e0, (by decide : 0 + 0 ≤ _), (by decide : 0 + 0 ≤ _)⟩)
  dsimp only [Pt.U, Pt.locs, Pt.cells, Pt.slots] at X1 l1 y1 z1 st1 hQ1
  subst l1 y1 z1
  obtain ⟨rfl, N1q, e1⟩ := hQ1
  have N1 := Fr.app N0 N1q
  have pre2 : own_P p e below (T1.setTop (mkF m 10 #[oa sv, oi 0, oa va, oi d, oi n, oi 0] [])) (s₁.setTop (entryFrame m #[(.ref sv), (.int 0), (.ref va), (.int d), (.int n)] 6)) := fun tZ kZ => pre0 tZ (by
    show Steps _ _ _ (s₁.setTop (mkF m 0 #[oa sv, oi 0, oa va, oi d, oi n, .unset] [])) _
    refine XS.iloadN X0.here hx rfl (hb hby d48_0) rfl  ?_
    refine XS.iload X0.here hx rfl (hb hby d48_1) rfl  ?_
    refine XS.aloadN X0.here hx rfl (hb hby d48_3) rfl rfl ?_
    refine st1 _ ?_
    refine XS.iconst X1.here hx rfl (hb hby d48_7) ?_
    refine XS.istore X1.here hx rfl (hb hby d48_8) rfl (l' := #[oa sv, oi 0, oa va, oi d, oi n, oi 0]) rfl ?_
    exact kZ)
  have loop : ∀ (k : Nat) (j dj : Int32) (Tl : State) (hl : Heap) (Ll : List Loc), Stand p l e oR22 s m #[(.ref sv), (.int 0), (.ref va), (.int d), (.int n)] below meth c Tl Ll 0 0 → Tl.heap = hl → Fr n0 Ll → Keep h0 hl [va] → n0 ≤ hl.size → Old Z n0 hl → Arv Z hl sv ks .byte zs (own_lb us) (.int 0) → Arv Z hl va kv .byte z (vs ++ own_ub (us.take j.toNatClampNeg)) (.int 0) → ¬ (j < (0 : Int32)) → j.toInt + (k : Nat) = n.toInt → dj.toInt = d.toInt + j.toInt → ∃ (T' : State) (h' : Heap) (L' : List Loc) (j' dj' : Int32), Stand p l e oR22 s m #[(.ref sv), (.int 0), (.ref va), (.int d), (.int n)] below meth c T' L' 0 0 ∧ T'.heap = h' ∧ Fr n0 L' ∧ Keep h0 h' [va] ∧ Arv Z h' va kv .byte z (vs ++ own_ub us) (.int 0) ∧ ∀ tZ, Steps p.tables e below (T'.setTop (mkF m 41 #[oa sv, oi j', oa va, oi dj', oi n, oi j'] [])) tZ → Steps p.tables e below (Tl.setTop (mkF m 10 #[oa sv, oi j, oa va, oi dj, oi n, oi j] [])) tZ := by
    intro k
    induction k with
    | zero =>
      intro j dj Tl hl Ll Xl el Nl Kl Zl Ol Al Bl hj hk hdj
      refine ⟨Tl, hl, Ll, j, dj, Xl, el, Nl, Kl, by rw [(own_jl hk hn).2] at Bl; exact Bl, fun tZ kZ => ?_⟩
      show Steps _ _ _ (Tl.setTop (mkF m 10 #[oa sv, oi j, oa va, oi dj, oi n, oi j] [])) _
      refine XS.iload Xl.here hx rfl (hb hby d48_10) rfl  ?_
      show Steps _ _ _ (Tl.setTop (mkF m 12 #[oa sv, oi j, oa va, oi dj, oi n, oi j] [(.int j)])) _
      refine XS.iload Xl.here hx rfl (hb hby d48_12) rfl  ?_
      show Steps _ _ _ (Tl.setTop (mkF m 14 #[oa sv, oi j, oa va, oi dj, oi n, oi j] [(.int n), (.int j)])) _
      refine XS.icmpYes Xl.here hx rfl (pc0 := 14) (pc' := 41) rfl (hb hby d48_14) rfl (flt (own_jl hk hn).1).2.1 (by decide) (by decide) ?_
      exact kZ
    | succ k ih =>
      intro j dj Tl hl Ll Xl el Nl Kl Zl Ol Al Bl hj hk hdj
      obtain ⟨uj, hgj⟩ := own_get hj hk hn
      have huj := List.mem_of_getElem? hgj
      obtain ⟨jn, j0', j1', j2'⟩ := own_j1 hj hk hn16
      obtain ⟨d0', d1', d2', d3'⟩ := own_d1 hd0 hj hk hdj hz
      obtain ⟨c3, Arc3, qc3, Sc3, Mc3, Hc3, Gc3⟩ := id Al
      have hinc3 : ¬ (j < 0 ∨ c3.slots.size ≤ (j).toNatClampNeg) := inb_of Sc3 ⟨hj, (by rw [Int32.lt_iff_toInt_lt] at *; omega)⟩
      have hatc3 : c3.slots[(j).toNatClampNeg]? = some (.int (uj.toInt8.toInt32)) := Hc3.at hinc3 (own_g1 hgj)
      obtain ⟨_, _, ⟨T4, L4, k4, n4⟩, -, X4, ⟨Lc4, hQ4, l4, y4, z4⟩, st4⟩ := Jvm.LawKit.callS Xl hx (y := oM8) hown (mvT hZ (ow hw 209 rfl)) (mvT hZ (ow hw 210 rfl)) (mvT hZ (ow hw 37 rfl)) (mvT hZ (ow hw 211 rfl)) (by decide) (backOf (W := 0) (rm41 l Z a0 hw [] va dj uj kv z (vs ++ own_ub (us.take j.toNatClampNeg)) hl n0 Zl Bl gx Ol Ua Uh Ul d0' d1' (by rw [d3', List.length_append, own_ubl, List.length_take, ← hdv]; have q := (List.getElem?_eq_some_iff.mp hgj).1; omega)) hZ (ow hw 211 rfl) (ow hw 37 rfl) (by decide) (by decide)) (g := (mkF m 32 #[oa sv, oi (j + (1 : Int32)), oa va, oi (dj + (1 : Int32)), oi n, oi j] [(.int uj), (.int dj), (.ref va)])) rfl (by rw [hml]; rfl) (argsL := [(.ref va), (.int dj), (.int uj)]) (rest := []) (lenOf pd13 rfl) rfl (Nat.le_of_eq rfl) (hb hby d48_32) (fun _ _ => ⟨rfl, el, (by decide : 0 + 0 ≤ _), (by decide : 0 + 0 ≤ _)⟩)
      dsimp only [Pt.U, Pt.locs, Pt.cells, Pt.slots] at X4 l4 y4 z4 st4 hQ4
      subst l4 y4 z4
      obtain ⟨rfl, N4q, K4, f4_0⟩ := hQ4
      have N4 := Fr.app Nl N4q
      have Z5 : n0 ≤ T4.heap.size := Nat.le_trans Zl K4.1
      have K6 : Keep h0 T4.heap [va] := Kl.trans K4 (allS (P := fun x => x ∈ _ ∨ _) (Or.inl (List.mem_of_getElem? (i := 0) rfl)) all0)
      have fa7 := (Al.keep K4 (ninS nsv nin0))
      have fa8 := (Ol.keep K4 (allS (P := fun x => n0 ≤ x) gx all0))
      have Bn : Arv Z T4.heap va kv .byte z (vs ++ own_ub (us.take (j + (1 : Int32)).toNatClampNeg)) (.int 0) := by rw [j2', own_ubt hgj]; have q := f4_0; simpa using q
      obtain ⟨T', h', L', j', dj', X', e', N', K', B', st'⟩ := ih (j + (1 : Int32)) (dj + (1 : Int32)) _ _ _ X4 rfl N4 K6 Z5 fa8 fa7 Bn j0' (by rw [j1']; omega) (by rw [j1']; exact d2')
      refine ⟨T', h', L', j', dj', X', e', N', K', B', fun tZ kZ => ?_⟩
      show Steps _ _ _ (Tl.setTop (mkF m 10 #[oa sv, oi j, oa va, oi dj, oi n, oi j] [])) _
      refine XS.iload Xl.here hx rfl (hb hby d48_10) rfl  ?_
      show Steps _ _ _ (Tl.setTop (mkF m 12 #[oa sv, oi j, oa va, oi dj, oi n, oi j] [(.int j)])) _
      refine XS.iload Xl.here hx rfl (hb hby d48_12) rfl  ?_
      show Steps _ _ _ (Tl.setTop (mkF m 14 #[oa sv, oi j, oa va, oi dj, oi n, oi j] [(.int n), (.int j)])) _
      refine XS.icmpNo Xl.here hx rfl (hb hby d48_14) rfl (tlt jn).2.1 ?_
      show Steps _ _ _ (Tl.setTop (mkF m 17 #[oa sv, oi j, oa va, oi dj, oi n, oi j] [])) _
      refine XS.aloadN Xl.here hx rfl (hb hby d48_17) rfl rfl ?_
      show Steps _ _ _ (Tl.setTop (mkF m 18 #[oa sv, oi j, oa va, oi dj, oi n, oi j] [(.ref va)])) _
      refine XS.iloadN Xl.here hx rfl (hb hby d48_18) rfl  ?_
      show Steps _ _ _ (Tl.setTop (mkF m 19 #[oa sv, oi j, oa va, oi dj, oi n, oi j] [(.int dj), (.ref va)])) _
      refine XS.iinc Xl.here hx rfl (hb hby d48_19) rfl (l' := #[oa sv, oi j, oa va, oi (dj + (1 : Int32)), oi n, oi j]) rfl ?_
      show Steps _ _ _ (Tl.setTop (mkF m 22 #[oa sv, oi j, oa va, oi (dj + (1 : Int32)), oi n, oi j] [(.int dj), (.ref va)])) _
      refine XS.aloadN Xl.here hx rfl (hb hby d48_22) rfl rfl ?_
      show Steps _ _ _ (Tl.setTop (mkF m 23 #[oa sv, oi j, oa va, oi (dj + (1 : Int32)), oi n, oi j] [(.ref sv), (.int dj), (.ref va)])) _
      refine XS.iloadN Xl.here hx rfl (hb hby d48_23) rfl  ?_
      show Steps _ _ _ (Tl.setTop (mkF m 24 #[oa sv, oi j, oa va, oi (dj + (1 : Int32)), oi n, oi j] [(.int j), (.ref sv), (.int dj), (.ref va)])) _
      refine XS.iinc Xl.here hx rfl (hb hby d48_24) rfl (l' := #[oa sv, oi (j + (1 : Int32)), oa va, oi (dj + (1 : Int32)), oi n, oi j]) rfl ?_
      show Steps _ _ _ (Tl.setTop (mkF m 27 #[oa sv, oi (j + (1 : Int32)), oa va, oi (dj + (1 : Int32)), oi n, oi j] [(.int j), (.ref sv), (.int dj), (.ref va)])) _
      refine Xl.baloadBytes hx (j := j) (v := (.int (uj.toInt8.toInt32))) (by rw [el]; exact Arc3.1) (State.isArrayOf_alike hZ.alike Arc3.2.1) Arc3.2.2 hinc3 hatc3 (g := (mkF m 27 #[oa sv, oi (j + (1 : Int32)), oa va, oi (dj + (1 : Int32)), oi n, oi j] [(.int j), (.ref sv), (.int dj), (.ref va)])) rfl rfl (hb hby d48_27) _ ?_
      show Steps _ _ _ (Tl.setTop (mkF m 28 #[oa sv, oi (j + (1 : Int32)), oa va, oi (dj + (1 : Int32)), oi n, oi j] [(.int (uj.toInt8.toInt32)), (.int dj), (.ref va)])) _
      refine XS.sipush Xl.here hx rfl (hb hby d48_28) ?_
      show Steps _ _ _ (Tl.setTop (mkF m 31 #[oa sv, oi (j + (1 : Int32)), oa va, oi (dj + (1 : Int32)), oi n, oi j] [(.int 255), (.int (uj.toInt8.toInt32)), (.int dj), (.ref va)])) _
      refine XS.iand Xl.here hx rfl (hb hby d48_31) rfl ?_
      show Steps _ _ _ (Tl.setTop (mkF m 32 #[oa sv, oi (j + (1 : Int32)), oa va, oi (dj + (1 : Int32)), oi n, oi j] [(.int ((uj.toInt8.toInt32) &&& (255 : Int32))), (.int dj), (.ref va)])) _
      rw [show ((uj.toInt8.toInt32) &&& (255 : Int32)) = uj from own_b8 (hchs uj huj).1 (hla uj huj)]
      show Steps _ _ _ (Tl.setTop (mkF m 32 #[oa sv, oi (j + (1 : Int32)), oa va, oi (dj + (1 : Int32)), oi n, oi j] [(.int uj), (.int dj), (.ref va)])) _
      refine st4 _ ?_
      show Steps _ _ _ (T4.setTop (mkF m 35 #[oa sv, oi (j + (1 : Int32)), oa va, oi (dj + (1 : Int32)), oi n, oi j] [])) _
      refine XS.iinc X4.here hx rfl (hb hby d48_35) rfl (l' := #[oa sv, oi (j + (1 : Int32)), oa va, oi (dj + (1 : Int32)), oi n, oi (j + (1 : Int32))]) rfl ?_
      show Steps _ _ _ (T4.setTop (mkF m 38 #[oa sv, oi (j + (1 : Int32)), oa va, oi (dj + (1 : Int32)), oi n, oi (j + (1 : Int32))] [])) _
      refine XS.goto X4.here hx rfl (pc0 := 38) (pc' := 10) rfl (hb hby d48_38) (by decide) (by decide) ?_
      exact st' tZ kZ
  obtain ⟨T9, h9, L9, j9, dj9, X9, e9, N9, K9, V9, st9⟩ := loop us.length (0 : Int32) d _ _ _ X1 e1 N1 (Keep.refl h0 [va]) Z0 Ox Vs (by have q := Vx; simpa [own_ub] using q) (by decide) (by rw [hn]; simp) (by simp)
  obtain ⟨fsZ, hrZ, hrun, hended, hW, hsame⟩ := X9.leave (v := none) (fun _ => rfl)
  refine ⟨_, _, pre2 _ ?_, hrun, hended, _, _, rfl, ?_, ⟨_, rfl⟩, hW, hsame.mono (by decide) (by decide)⟩
  · refine st9 _ ?_
    show Steps _ _ _ (T9.setTop (mkF m 41 #[oa sv, oi j9, oa va, oi dj9, oi n, oi j9] [])) _
    exact X9.returnOut hx Bd.returns (hb hby d48_41) hrZ
  · show Q48 Z sv va d n ks zs us kv z vs fm h0 n0 _ T9.heap _
    rw [e9]
    exact ⟨rfl, N9, K9, V9⟩
theorem d47_0 : decode zc33 0 = .ok (.aload_n 0, 1) := by decide +kernel
theorem d47_1 : decode zc33 1 = .ok (.iload_n 1, 1) := by decide +kernel
theorem d47_2 : decode zc33 2 = .ok (.aload_n 2, 1) := by decide +kernel
theorem d47_3 : decode zc33 3 = .ok (.iload_n 3, 1) := by decide +kernel
theorem d47_4 : decode zc33 4 = .ok (.iload 4, 2) := by decide +kernel
theorem d47_6 : decode zc33 6 = .ok (.invokestatic 240, 3) := by decide +kernel
theorem pd27 : parseMethodDescriptor "([BI[BII)V" = some ⟨[(.array .byte), .int, (.array .byte), .int, .int], none⟩ := by decide +kernel
theorem d47_9 : decode zc33 9 = .ok (.return_, 1) := by decide +kernel
theorem ef47 (m : MethodId) (sv : Addr) (va : Addr) (d : Int32) (n : Int32) : entryFrame m #[(.ref sv), (.int 0), (.ref va), (.int d), (.int n)] 5 = mkF m 0 #[oa sv, oi 0, oa va, oi d, oi n] [] := by first | (simp [entryFrame, mkF, argsToLocals, Value.category]; done) | rfl
def Q47 (Z : State) (sv : Addr) (va : Addr) (d : Int32) (n : Int32) (ks : ClassId) (zs : Int32) (us : List Int32) (kv : ClassId) (z : Int32) (vs : List Value) (fm : Value) (h0 : Heap) (n0 : Nat) (v : Option Value) (h : Heap) (L : List Loc) : Prop := v = none ∧ Fr n0 L ∧ Keep h0 h [va] ∧ Arv Z h va kv .byte z (vs ++ own_ub us) (.int 0)
theorem rm47 (l : Launch) (Z : State) (a0 : Array Value) (hw : ∀ d ∈ tables_1, d.before a0 Z = true) (ws : List Jvm.Cond) (sv : Addr) (va : Addr) (d : Int32) (n : Int32) (ks : ClassId) (zs : Int32) (us : List Int32) (kv : ClassId) (z : Int32) (vs : List Value) (fm : Value) (h0 : Heap) (n0 : Nat) (Z0 : n0 ≤ h0.size) (Vs : Arv Z h0 sv ks .byte zs (own_lb us) (.int 0)) (Vx : Arv Z h0 va kv .byte z vs (.int 0)) (nsv : sv ≠ va) (gx : n0 ≤ va) (Ox : Old Z n0 h0) (Ua : Sta Z Z.heap o6 "$assertionsDisabled" "Z" (.int 1)) (Uh : Sta Z Z.heap o6 "HI_BYTE_SHIFT" "I" (.int 0)) (Ul : Sta Z Z.heap o6 "LO_BYTE_SHIFT" "I" (.int 8)) (Fm : Sta Z Z.heap "jdk/internal/util/Preconditions" "SIOOBE_FORMATTER" "Ljava/util/function/BiFunction;" fm) (hfm : fm.isRef = true) (hn : n.toInt = us.length) (hn16 : n.toInt ≤ 16) (hns : n.toInt ≤ zs.toInt) (hd0 : ¬ (d < (0 : Int32))) (hdv : 2 * d.toNatClampNeg = vs.length) (hz : 2 * (d.toInt + n.toInt) ≤ z.toInt) (hla : own_lat us) (hchs : own_chs us) :
    MetFree l oM33 (head1 (Jvm.Cond.code oM33 zc33 5 none :: ws) oR23) (fun a U => a = #[(.ref sv), (.int 0), (.ref va), (.int d), (.int n)] ∧ Z.Warmed39 U.vm ∧ U.heap = h0) (fun _ _ _ _ _ => True) (fun _ U o U' => ∃ v L, o = .returned v ∧ Q47 Z sv va d n ks zs us kv z vs fm h0 n0 v U'.heap L ∧ FrameEnd U o U' L oR23.cells oR23.slots) := by
  refine MetFree.of_bodySF (plainFor_of_name pn0) hisR ?_
  intro p e s m args below meth c s₁ Bd hml0 hP hK
  obtain ⟨rfl, hZ, hh⟩ := hP
  have hx := Bd.exec
  have hby := Bd.bytes
  have hml : c.maxLocals = 5 := hml0
  have hown : s.vm.findClass "java/lang/StringLatin1" = some m.cls := findClass_of_methodNamed Bd.named
  have X0 : Stand p l e oR23 s m #[(.ref sv), (.int 0), (.ref va), (.int d), (.int n)] below meth c s₁ [] 0 0 := Stand.of_body Bd
  have e0 : s₁.heap = h0 := by rw [← hh, Bd.state]; rfl
  have N0 := Fr.nil n0
  have pre0 := own_pre (p := p) (e := e) (below := below) (s₁ := s₁) (ef47 m sv va d n)
  obtain ⟨_, _, ⟨T1, L1, k1, n1⟩, -, X1, ⟨Lc1, hQ1, l1, y1, z1⟩, st1⟩ := Jvm.LawKit.callS X0 hx (y := oM32) hown (mvT hZ (ow hw 238 rfl)) (mvT hZ (ow hw 239 rfl)) (mvT hZ (ow hw 37 rfl)) (mvT hZ (ow hw 240 rfl)) (by decide) (backOf (W := 0) (rm48 l Z a0 hw [] sv va d n ks zs us kv z vs fm h0 n0 Z0 Vs Vx nsv gx Ox Ua Uh Ul Fm hfm hn hn16 hns hd0 hdv hz hla hchs) hZ (ow hw 240 rfl) (ow hw 37 rfl) (by decide) (by decide)) (g := (mkF m 6 #[oa sv, oi 0, oa va, oi d, oi n] [(.int n), (.int d), (.ref va), (.int 0), (.ref sv)])) rfl (by rw [hml]; rfl) (argsL := [(.ref sv), (.int 0), (.ref va), (.int d), (.int n)]) (rest := []) (lenOf pd27 rfl) rfl (Nat.le_of_eq rfl) (hb hby d47_6) (fun _ _ => ⟨rfl, e0, (by decide : 0 + 0 ≤ _), (by decide : 0 + 0 ≤ _)⟩)
  dsimp only [Pt.U, Pt.locs, Pt.cells, Pt.slots] at X1 l1 y1 z1 st1 hQ1
  subst l1 y1 z1
  obtain ⟨rfl, N1q, K1, f1_0⟩ := hQ1
  have N1 := Fr.app N0 N1q
  have Z2 : n0 ≤ T1.heap.size := Nat.le_trans Z0 K1.1
  have K3 : Keep h0 T1.heap [va] := (Keep.refl h0 [va]).trans K1 (allS (P := fun x => x ∈ _ ∨ _) (Or.inl (List.mem_of_getElem? (i := 0) rfl)) all0)
  obtain ⟨fsZ, hrZ, hrun, hended, hW, hsame⟩ := X1.leave (v := none) (fun _ => rfl)
  refine ⟨_, _, pre0 _ ?_, hrun, hended, _, _, rfl, ?_, ⟨_, rfl⟩, hW, hsame.mono (by decide) (by decide)⟩
  · show Steps _ _ _ (s₁.setTop (mkF m 0 #[oa sv, oi 0, oa va, oi d, oi n] [])) _
    refine XS.aloadN X0.here hx rfl (hb hby d47_0) rfl rfl ?_
    refine XS.iloadN X0.here hx rfl (hb hby d47_1) rfl  ?_
    refine XS.aloadN X0.here hx rfl (hb hby d47_2) rfl rfl ?_
    refine XS.iloadN X0.here hx rfl (hb hby d47_3) rfl  ?_
    refine XS.iload X0.here hx rfl (hb hby d47_4) rfl  ?_
    refine st1 _ ?_
    show Steps _ _ _ (T1.setTop (mkF m 9 #[oa sv, oi 0, oa va, oi d, oi n] [])) _
    exact X1.returnOut hx Bd.returns (hb hby d47_9) hrZ
  · show Q47 Z sv va d n ks zs us kv z vs fm h0 n0 _ T1.heap _
    exact ⟨rfl, N1, K3, f1_0⟩
theorem d46_0 : decode zc34 0 = .ok (.aload_n 0, 1) := by decide +kernel
theorem d46_1 : decode zc34 1 = .ok (.invokevirtual 83, 3) := by decide +kernel
theorem d46_4 : decode zc34 4 = .ok (.ifCond .ne 4, 3) := by decide +kernel
theorem d46_7 : decode zc34 7 = .ok (.return_, 1) := by decide +kernel
theorem ef46k1 (m : MethodId) (b : Addr) : entryFrame m #[(.ref b)] 2 = mkF m 0 #[oa b, .unset] [] := by first | (simp [entryFrame, mkF, argsToLocals, Value.category]; done) | rfl
def Q46k1 (Z : State) (b : Addr) (cs : Int32) (h0 : Heap) (n0 : Nat) (v : Option Value) (h : Heap) (L : List Loc) : Prop := v = none ∧ Fr n0 L ∧ h = h0
theorem rm46k1 (l : Launch) (Z : State) (a0 : Array Value) (hw : ∀ d ∈ tables_1, d.before a0 Z = true) (ws : List Jvm.Cond) (b : Addr) (cs : Int32) (h0 : Heap) (n0 : Nat) (Z0 : n0 ≤ h0.size) (Bc : Fld Z h0 b oA "coder" "B" (.int 1)) (Eb : Exa Z h0 b oB) (Cs : Sta Z Z.heap oS "COMPACT_STRINGS" "Z" (.int cs)) (hcs : ¬ (cs = (0 : Int32))) (Ox : Old Z n0 h0) :
    MetFree l oM34 (head1 (Jvm.Cond.code oM34 zc34 2 none :: ws) oR15) (fun a U => a = #[(.ref b)] ∧ Z.Warmed39 U.vm ∧ U.heap = h0) (fun _ _ _ _ _ => True) (fun _ U o U' => ∃ v L, o = .returned v ∧ Q46k1 Z b cs h0 n0 v U'.heap L ∧ FrameEnd U o U' L oR15.cells oR15.slots) := by
  refine MetFree.of_bodySF (plainFor_of_name pn23) hisR ?_
  intro p e s m args below meth c s₁ Bd hml0 hP hK
  obtain ⟨rfl, hZ, hh⟩ := hP
  have hx := Bd.exec
  have hby := Bd.bytes
  have hml : c.maxLocals = 2 := hml0
  have hown : s.vm.findClass oA = some m.cls := findClass_of_methodNamed Bd.named
  have X0 : Stand p l e oR15 s m #[(.ref b)] below meth c s₁ [] 0 0 := Stand.of_body Bd
  have e0 : s₁.heap = h0 := by rw [← hh, Bd.state]; rfl
  have N0 := Fr.nil n0
  have pre0 := own_pre (p := p) (e := e) (below := below) (s₁ := s₁) (ef46k1 m b)
  obtain ⟨cq1, kq1, q1a, q1b, q1c⟩ := isOf hZ e0 Eb
  obtain ⟨_, _, ⟨T1, L1, k1, n1⟩, -, X1, ⟨Lc1, hQ1, l1, y1, z1⟩, st1⟩ := X0.virtualBack hx (y := oM30) (z := oM30) hown (mvT hZ (ow hw 233 rfl)) (mvT hZ (ow hw 161 rfl)) (notFace_of_selects (args := #[]) (mvT hZ (ow hw 163 rfl))) (mvT hZ (ow hw 163 rfl)) (mvT hZ (ow hw 162 rfl)) (by decide) (backOf (W := 0) (rm29k1 l Z a0 hw [] b cs h0 n0 Z0 Bc Cs hcs Ox) hZ (ow hw 164 rfl) (ow hw 77 rfl) (by decide) (by decide)) q1a q1c (g := (mkF m 1 #[oa b, .unset] [(.ref b)])) rfl (by rw [hml]; rfl) (Steps.refl _) (argsL := []) (rest := []) (lenOf pd12 rfl) rfl (Nat.le_of_eq rfl) (hb hby d46_1) (fun _ _ => ⟨rfl, e0, (by decide : 0 + 0 ≤ _), (by decide : 0 + 0 ≤ _)⟩)
  dsimp only [Pt.U, Pt.locs, Pt.cells, Pt.slots] at X1 l1 y1 z1 st1 hQ1
  subst l1 y1 z1
  obtain ⟨rfl, N1q, e1⟩ := hQ1
  have N1 := Fr.app N0 N1q
  obtain ⟨fsZ, hrZ, hrun, hended, hW, hsame⟩ := X1.leave (v := none) (fun _ => rfl)
  refine ⟨_, _, pre0 _ ?_, hrun, hended, _, _, rfl, ?_, ⟨_, rfl⟩, hW, hsame.mono (by decide) (by decide)⟩
  · show Steps _ _ _ (s₁.setTop (mkF m 0 #[oa b, .unset] [])) _
    refine XS.aloadN X0.here hx rfl (hb hby d46_0) rfl rfl ?_
    refine st1.trans ?_
    refine XS.ifNo X1.here hx rfl (hb hby d46_4) rfl ((if0 _ _).trans (teq (by decide)).2) ?_
    show Steps _ _ _ (T1.setTop (mkF m 7 #[oa b, .unset] [])) _
    exact X1.returnOut hx Bd.returns (hb hby d46_7) hrZ
  · show Q46k1 Z b cs h0 n0 _ T1.heap _
    rw [e1]
    exact ⟨rfl, N1, rfl⟩
theorem d46_8 : decode zc34 8 = .ok (.aload_n 0, 1) := by decide +kernel
theorem d46_9 : decode zc34 9 = .ok (.getfield 15, 3) := by decide +kernel
theorem d46_12 : decode zc34 12 = .ok (.arraylength, 1) := by decide +kernel
theorem d46_13 : decode zc34 13 = .ok (.invokestatic 26, 3) := by decide +kernel
theorem d46_16 : decode zc34 16 = .ok (.astore_n 1, 1) := by decide +kernel
theorem d46_17 : decode zc34 17 = .ok (.aload_n 0, 1) := by decide +kernel
theorem d46_18 : decode zc34 18 = .ok (.getfield 15, 3) := by decide +kernel
theorem d46_21 : decode zc34 21 = .ok (.iconst 0, 1) := by decide +kernel
theorem d46_22 : decode zc34 22 = .ok (.aload_n 1, 1) := by decide +kernel
theorem d46_23 : decode zc34 23 = .ok (.iconst 0, 1) := by decide +kernel
theorem d46_24 : decode zc34 24 = .ok (.aload_n 0, 1) := by decide +kernel
theorem d46_25 : decode zc34 25 = .ok (.getfield 79, 3) := by decide +kernel
theorem d46_28 : decode zc34 28 = .ok (.invokestatic 125, 3) := by decide +kernel
theorem d46_31 : decode zc34 31 = .ok (.aload_n 0, 1) := by decide +kernel
theorem d46_32 : decode zc34 32 = .ok (.aload_n 1, 1) := by decide +kernel
theorem d46_33 : decode zc34 33 = .ok (.putfield 15, 3) := by decide +kernel
theorem d46_36 : decode zc34 36 = .ok (.aload_n 0, 1) := by decide +kernel
theorem d46_37 : decode zc34 37 = .ok (.iconst 1, 1) := by decide +kernel
theorem d46_38 : decode zc34 38 = .ok (.putfield 22, 3) := by decide +kernel
theorem d46_41 : decode zc34 41 = .ok (.return_, 1) := by decide +kernel
theorem ef46k0 (m : MethodId) (b : Addr) : entryFrame m #[(.ref b)] 2 = mkF m 0 #[oa b, .unset] [] := by first | (simp [entryFrame, mkF, argsToLocals, Value.category]; done) | rfl
def Q46k0 (Z : State) (b : Addr) (va : Addr) (kv : ClassId) (cn : Int32) (us : List Int32) (cs : Int32) (fm : Value) (h0 : Heap) (n0 : Nat) (v : Option Value) (h : Heap) (L : List Loc) : Prop := ∃ (va2 : Addr) (kv2 : ClassId), v = none ∧ Fr n0 L ∧ Keep h0 h [b] ∧ n0 ≤ va2 ∧ h0.size ≤ va2 ∧ Exa Z h b oB ∧ Fld Z h b oA "value" "[B" (.ref va2) ∧ Fld Z h b oA "coder" "B" (.int 1) ∧ Fld Z h b oA "count" "I" (.int cn) ∧ Fld Z h b oA "maybeLatin1" "Z" (.int 0) ∧ Arv Z h va2 kv2 .byte (32 : Int32) (own_ub us) (.int 0)
theorem rm46k0 (l : Launch) (Z : State) (a0 : Array Value) (hw : ∀ d ∈ tables_1, d.before a0 Z = true) (ws : List Jvm.Cond) (b : Addr) (va : Addr) (kv : ClassId) (cn : Int32) (us : List Int32) (cs : Int32) (fm : Value) (h0 : Heap) (n0 : Nat) (Z0 : n0 ≤ h0.size) (F0 : Exa Z h0 b oB) (F1 : Fld Z h0 b oA "value" "[B" (.ref va)) (F2 : Fld Z h0 b oA "coder" "B" (.int 0)) (F3 : Fld Z h0 b oA "count" "I" (.int cn)) (F4 : Fld Z h0 b oA "maybeLatin1" "Z" (.int 0)) (F5 : Arv Z h0 va kv .byte (16 : Int32) (own_lb us) (.int 0)) (gb : n0 ≤ b) (nbv : b ≠ va) (Cs : Sta Z Z.heap oS "COMPACT_STRINGS" "Z" (.int cs)) (hcs : ¬ (cs = (0 : Int32))) (Ox : Old Z n0 h0) (Fm : Sta Z Z.heap "jdk/internal/util/Preconditions" "SIOOBE_FORMATTER" "Ljava/util/function/BiFunction;" fm) (hfm : fm.isRef = true) (Ua : Sta Z Z.heap o6 "$assertionsDisabled" "Z" (.int 1)) (Uh : Sta Z Z.heap o6 "HI_BYTE_SHIFT" "I" (.int 0)) (Ul : Sta Z Z.heap o6 "LO_BYTE_SHIFT" "I" (.int 8)) (hn : cn.toInt = us.length) (hn16 : cn.toInt ≤ 16) (hla : own_lat us) (hchs : own_chs us) :
    MetFree l oM34 (head1 (Jvm.Cond.code oM34 zc34 2 none :: ws) oR24) (fun a U => a = #[(.ref b)] ∧ Z.Warmed39 U.vm ∧ U.heap = h0) (fun _ _ _ _ _ => True) (fun _ U o U' => ∃ v L, o = .returned v ∧ Q46k0 Z b va kv cn us cs fm h0 n0 v U'.heap L ∧ FrameEnd U o U' L oR24.cells oR24.slots) := by
  refine MetFree.of_bodySF (plainFor_of_name pn23) hisR ?_
  intro p e s m args below meth c s₁ Bd hml0 hP hK
  obtain ⟨rfl, hZ, hh⟩ := hP
  have hx := Bd.exec
  have hby := Bd.bytes
  have hml : c.maxLocals = 2 := hml0
  have hown : s.vm.findClass oA = some m.cls := findClass_of_methodNamed Bd.named
  have X0 : Stand p l e oR24 s m #[(.ref b)] below meth c s₁ [] 0 0 := Stand.of_body Bd
  have e0 : s₁.heap = h0 := by rw [← hh, Bd.state]; rfl
  have N0 := Fr.nil n0
  have pre0 := own_pre (p := p) (e := e) (below := below) (s₁ := s₁) (ef46k0 m b)
  obtain ⟨cq1, kq1, q1a, q1b, q1c⟩ := isOf hZ e0 F0
  obtain ⟨_, _, ⟨T1, L1, k1, n1⟩, -, X1, ⟨Lc1, hQ1, l1, y1, z1⟩, st1⟩ := X0.virtualBack hx (y := oM30) (z := oM30) hown (mvT hZ (ow hw 233 rfl)) (mvT hZ (ow hw 161 rfl)) (notFace_of_selects (args := #[]) (mvT hZ (ow hw 163 rfl))) (mvT hZ (ow hw 163 rfl)) (mvT hZ (ow hw 162 rfl)) (by decide) (backOf (W := 0) (rm29k0 l Z a0 hw [] b cs h0 n0 Z0 F2 Cs hcs Ox) hZ (ow hw 164 rfl) (ow hw 77 rfl) (by decide) (by decide)) q1a q1c (g := (mkF m 1 #[oa b, .unset] [(.ref b)])) rfl (by rw [hml]; rfl) (Steps.refl _) (argsL := []) (rest := []) (lenOf pd12 rfl) rfl (Nat.le_of_eq rfl) (hb hby d46_1) (fun _ _ => ⟨rfl, e0, (by decide : 0 + 0 ≤ _), (by decide : 0 + 0 ≤ _)⟩)
  dsimp only [Pt.U, Pt.locs, Pt.cells, Pt.slots] at X1 l1 y1 z1 st1 hQ1
  subst l1 y1 z1
  obtain ⟨rfl, N1q, e1⟩ := hQ1
  have N1 := Fr.app N0 N1q
  obtain ⟨T2, X2, e2, st2⟩ := getF X1 hx hZ hown (host := "") (Or.inl (ow hw 81 rfl)) Via.refl e1 F1 (g := (mkF m 9 #[oa b, .unset] [(.ref b)])) rfl rfl (hb hby d46_9)
  obtain ⟨c3, Arc3, -, Sc3, Mc3, -, -⟩ := id F5
  obtain ⟨_, _, ⟨T4, L4, k4, n4⟩, -, X4, ⟨Lc4, hQ4, l4, y4, z4⟩, st4⟩ := Jvm.LawKit.callS X2 hx (y := oM19) hown (mvT hZ (ow hw 234 rfl)) (mvT hZ (ow hw 219 rfl)) (mvT hZ (ow hw 37 rfl)) (mvT hZ (ow hw 220 rfl)) (by decide) (backOf (W := 0) (rm43n16 l Z a0 hw []  h0 n0 Z0 ) hZ (ow hw 220 rfl) (ow hw 37 rfl) (by decide) (by decide)) (g := (mkF m 13 #[oa b, .unset] [(.int 16)])) rfl (by rw [hml]; rfl) (argsL := [(.int 16)]) (rest := []) (lenOf pd15 rfl) rfl (Nat.le_of_eq rfl) (hb hby d46_13) (fun _ _ => ⟨rfl, e2, (by decide : 0 + 1 ≤ _), (by decide : 0 + 32 ≤ _)⟩)
  dsimp only [Pt.U, Pt.locs, Pt.cells, Pt.slots] at X4 l4 y4 z4 st4 hQ4
  subst l4 y4 z4
  obtain ⟨vb_5, kb_6, rfl, N4q, K4, u4_0, u4_1, f4_0⟩ := hQ4
  have N4 := Fr.app N1 N4q
  have Z7 : n0 ≤ T4.heap.size := Nat.le_trans Z0 K4.1
  have K8 : Keep h0 T4.heap [b] := (Keep.refl h0 [b]).trans K4 all0
  have ne9 := own_nc F0.lt u4_1
  have ne10 := own_nc F5.lt u4_1
  have sz_vb_5 : h0.size ≤ vb_5 := Nat.le_trans (Keep.refl h0 [b]).1 u4_1
  have fa11 := (F1.keep K4 nin0)
  obtain ⟨T12, X12, e12, st12⟩ := getF X4 hx hZ hown (host := "") (Or.inl (ow hw 81 rfl)) Via.refl rfl fa11 (g := (mkF m 18 #[oa b, oa vb_5] [(.ref b)])) rfl rfl (hb hby d46_18)
  have fa13 := (F3.keep K4 nin0)
  obtain ⟨T14, X14, e14, st14⟩ := getF X12 hx hZ hown (host := "") (Or.inl (ow hw 105 rfl)) Via.refl e12 fa13 (g := (mkF m 25 #[oa b, oa vb_5] [(.ref b), (.int 0), (.ref vb_5), (.int 0), (.ref va)])) rfl rfl (hb hby d46_25)
  have fa15 := (F5.keep K4 nin0)
  have fa16 := (Ox.keep K4 all0)
  obtain ⟨_, _, ⟨T17, L17, k17, n17⟩, -, X17, ⟨Lc17, hQ17, l17, y17, z17⟩, st17⟩ := Jvm.LawKit.callS X14 hx (y := oM33) hown (mvT hZ (ow hw 235 rfl)) (mvT hZ (ow hw 236 rfl)) (mvT hZ (ow hw 8 rfl)) (mvT hZ (ow hw 237 rfl)) (by decide) (backOf (W := 0) (rm47 l Z a0 hw [] va vb_5 (0 : Int32) cn kv (16 : Int32) us kb_6 (32 : Int32) [] fm T4.heap n0 Z7 fa15 f4_0 ne10 u4_0 fa16 Ua Uh Ul Fm hfm hn hn16 (by have e0 : (0 : Int32).toInt = 0 := (by decide); have e16 : (16 : Int32).toInt = 16 := (by decide); have e32 : (32 : Int32).toInt = 32 := (by decide); omega) (by decide) rfl (by have e0 : (0 : Int32).toInt = 0 := (by decide); have e16 : (16 : Int32).toInt = 16 := (by decide); have e32 : (32 : Int32).toInt = 32 := (by decide); omega) hla hchs) hZ (ow hw 237 rfl) (ow hw 8 rfl) (by decide) (by decide)) (g := (mkF m 28 #[oa b, oa vb_5] [(.int cn), (.int 0), (.ref vb_5), (.int 0), (.ref va)])) rfl (by rw [hml]; rfl) (argsL := [(.ref va), (.int 0), (.ref vb_5), (.int 0), (.int cn)]) (rest := []) (lenOf pd27 rfl) rfl (Nat.le_of_eq rfl) (hb hby d46_28) (fun _ _ => ⟨rfl, e14, (by decide : 1 + 0 ≤ _), (by decide : 32 + 0 ≤ _)⟩)
  dsimp only [Pt.U, Pt.locs, Pt.cells, Pt.slots] at X17 l17 y17 z17 st17 hQ17
  subst l17 y17 z17
  obtain ⟨rfl, N17q, K17, f17_0⟩ := hQ17
  have N17 := Fr.app N4 N17q
  have Z18 : n0 ≤ T17.heap.size := Nat.le_trans Z7 K17.1
  have K19 : Keep h0 T17.heap [b] := K8.trans K17 (allS (P := fun x => x ∈ _ ∨ _) (Or.inr sz_vb_5) all0)
  have fa20 := (fa11.keep K17 (ninS ne9 nin0))
  have fa21 := ((F0.keep K4).keep K17)
  obtain ⟨T22, h22, X22, e22, W22, st22⟩ := putF X17 hx hZ hown (host := "") (Or.inl (ow hw 81 rfl)) Via.refl rfl fa20 fa21 (Or.inl (ow hw 82 rfl)) (ow hw 68 rfl) (ty := (.array .byte)) (by decide) rfl rfl (g := (mkF m 33 #[oa b, oa vb_5] [(.ref vb_5), (.ref b)])) rfl rfl (hb hby d46_33)
  have fw22 : Fld Z h22 b oA "value" "[B" (.ref vb_5) := fa20.same W22
  have Z23 : n0 ≤ h22.size := Nat.le_trans Z18 (Nat.le_of_eq W22.size.symm)
  have K24 : Keep h0 h22 [b] := K19.wr W22 (Or.inl (List.mem_of_getElem? (i := 0) rfl))
  have N22 := Fr.snoc X22 N17 gb
  have fa25 := (((F2.keep K4 nin0).keep K17 (ninS ne9 nin0)).other W22 (Or.inr (slot_ne (Or.inl (ow hw 84 rfl)) (Or.inl (ow hw 82 rfl)) (by decide) (t := .byte) (t' := (.array .byte)) (by decide) (by decide))))
  have fa26 := (fa21.wr W22)
  obtain ⟨T27, h27, X27, e27, W27, st27⟩ := putFN X22 hx hZ hown (ow hw 83 rfl) Via.refl e22 fa25 fa26 (Or.inl (ow hw 84 rfl)) (ow hw 68 rfl) (ty := .byte) (v' := (.int 1)) (by decide) rfl (by decide) (g := (mkF m 38 #[oa b, oa vb_5] [(.int 1), (.ref b)])) rfl rfl (hb hby d46_38)
  have fw27 : Fld Z h27 b oA "coder" "B" (.int 1) := fa25.same W27
  have Z28 : n0 ≤ h27.size := Nat.le_trans Z23 (Nat.le_of_eq W27.size.symm)
  have K29 : Keep h0 h27 [b] := K24.wr W27 (Or.inl (List.mem_of_getElem? (i := 0) rfl))
  have N27 := Fr.snoc X27 N22 gb
  obtain ⟨fsZ, hrZ, hrun, hended, hW, hsame⟩ := X27.leave (v := none) (fun _ => rfl)
  have fa30 := (fa26.wr W27)
  have fa31 := (fw22.other W27 (Or.inr (slot_ne (Or.inl (ow hw 82 rfl)) (Or.inl (ow hw 84 rfl)) (by decide) (t := (.array .byte)) (t' := .byte) (by decide) (by decide))))
  have fa32 := (((fa13.keep K17 (ninS ne9 nin0)).other W22 (Or.inr (slot_ne (Or.inl (ow hw 106 rfl)) (Or.inl (ow hw 82 rfl)) (by decide) (t := .int) (t' := (.array .byte)) (by decide) (by decide)))).other W27 (Or.inr (slot_ne (Or.inl (ow hw 106 rfl)) (Or.inl (ow hw 84 rfl)) (by decide) (t := .int) (t' := .byte) (by decide) (by decide))))
  have fa33 := ((((F4.keep K4 nin0).keep K17 (ninS ne9 nin0)).other W22 (Or.inr (slot_ne (Or.inl (ow hw 255 rfl)) (Or.inl (ow hw 82 rfl)) (by decide) (t := .boolean) (t' := (.array .byte)) (by decide) (by decide)))).other W27 (Or.inr (slot_ne (Or.inl (ow hw 255 rfl)) (Or.inl (ow hw 84 rfl)) (by decide) (t := .boolean) (t' := .byte) (by decide) (by decide))))
  have fa34 := ((f17_0.other W22 (Ne.symm ne9)).other W27 (Ne.symm ne9))
  refine ⟨_, _, pre0 _ ?_, hrun, hended, _, _, rfl, ?_, ⟨_, rfl⟩, hW, hsame.mono (by decide) (by decide)⟩
  · show Steps _ _ _ (s₁.setTop (mkF m 0 #[oa b, .unset] [])) _
    refine XS.aloadN X0.here hx rfl (hb hby d46_0) rfl rfl ?_
    refine st1.trans ?_
    refine XS.ifYes X1.here hx rfl (pc0 := 4) (pc' := 8) rfl (hb hby d46_4) rfl ((if0 _ _).trans (feq (by decide)).2) (by decide) (by decide) ?_
    refine XS.aloadN X1.here hx rfl (hb hby d46_8) rfl rfl ?_
    refine st2 _ ?_
    show Steps _ _ _ (T2.setTop (mkF m 12 #[oa b, .unset] [(.ref va)])) _
    refine X2.arraylength hx (by rw [e2]; exact Arc3.1) (State.isArrayOf_alike hZ.alike Arc3.2.1) (g := (mkF m 12 #[oa b, .unset] [(.ref va)])) rfl rfl (hb hby d46_12) _ ?_
    rw [len_of Sc3 Mc3]
    show Steps _ _ _ (T2.setTop (mkF m 13 #[oa b, .unset] [(.int 16)])) _
    refine st4 _ ?_
    refine XS.astoreN X4.here hx rfl (hb hby d46_16) rfl rfl (l' := #[oa b, oa vb_5]) rfl ?_
    refine XS.aloadN X4.here hx rfl (hb hby d46_17) rfl rfl ?_
    refine st12 _ ?_
    refine XS.iconst X12.here hx rfl (hb hby d46_21) ?_
    refine XS.aloadN X12.here hx rfl (hb hby d46_22) rfl rfl ?_
    refine XS.iconst X12.here hx rfl (hb hby d46_23) ?_
    refine XS.aloadN X12.here hx rfl (hb hby d46_24) rfl rfl ?_
    show Steps _ _ _ (T12.setTop (mkF m 25 #[oa b, oa vb_5] [(.ref b), (.int 0), (.ref vb_5), (.int 0), (.ref va)])) _
    refine st14 _ ?_
    refine st17 _ ?_
    refine XS.aloadN X17.here hx rfl (hb hby d46_31) rfl rfl ?_
    refine XS.aloadN X17.here hx rfl (hb hby d46_32) rfl rfl ?_
    refine st22 _ ?_
    refine XS.aloadN X22.here hx rfl (hb hby d46_36) rfl rfl ?_
    refine XS.iconst X22.here hx rfl (hb hby d46_37) ?_
    refine st27 _ ?_
    show Steps _ _ _ (T27.setTop (mkF m 41 #[oa b, oa vb_5] [])) _
    exact X27.returnOut hx Bd.returns (hb hby d46_41) hrZ
  · show Q46k0 Z b va kv cn us cs fm h0 n0 _ T27.heap _
    rw [e27]
    exact ⟨vb_5, kb_6, rfl, N27, K29, u4_0, sz_vb_5, fa30, fa31, fw27, fa32, fa33, fa34⟩
theorem d21_0 : decode zc35 0 = .ok (.getstatic 18, 3) := by decide +kernel
theorem d21_3 : decode zc35 3 = .ok (.ifCond .eq 18, 3) := by decide +kernel
theorem d21_6 : decode zc35 6 = .ok (.aload_n 0, 1) := by decide +kernel
theorem d21_7 : decode zc35 7 = .ok (.getfield 22, 3) := by decide +kernel
theorem d21_10 : decode zc35 10 = .ok (.aload_n 1, 1) := by decide +kernel
theorem d21_11 : decode zc35 11 = .ok (.invokevirtual 40, 3) := by decide +kernel
theorem d21_14 : decode zc35 14 = .ok (.if_icmp .eq 7, 3) := by decide +kernel
theorem d21_21 : decode zc35 21 = .ok (.return_, 1) := by decide +kernel
theorem ef21_00 (m : MethodId) (b : Addr) (sa : Addr) : entryFrame m #[(.ref b), (.ref sa)] 2 = mkF m 0 #[oa b, oa sa] [] := by first | (simp [entryFrame, mkF, argsToLocals, Value.category]; done) | rfl
def Q21_00 (Z : State) (b : Addr) (sa : Addr) (cs : Int32) (h0 : Heap) (n0 : Nat) (v : Option Value) (h : Heap) (L : List Loc) : Prop := v = none ∧ Fr n0 L ∧ h = h0
theorem rm21_00 (l : Launch) (Z : State) (a0 : Array Value) (hw : ∀ d ∈ tables_1, d.before a0 Z = true) (ws : List Jvm.Cond) (b : Addr) (sa : Addr) (cs : Int32) (h0 : Heap) (n0 : Nat) (Z0 : n0 ≤ h0.size) (Eb : Exa Z h0 b oB) (Bc : Fld Z h0 b oA "coder" "B" (.int 0)) (Es : Exa Z h0 sa oS) (Sc : Fld Z h0 sa oS "coder" "B" (.int 0)) (Cs : Sta Z Z.heap oS "COMPACT_STRINGS" "Z" (.int cs)) (hcs : ¬ (cs = (0 : Int32))) (Ox : Old Z n0 h0) :
    MetFree l oM35 (head1 (Jvm.Cond.code oM35 zc35 2 none :: ws) oR6) (fun a U => a = #[(.ref b), (.ref sa)] ∧ Z.Warmed39 U.vm ∧ U.heap = h0) (fun _ _ _ _ _ => True) (fun _ U o U' => ∃ v L, o = .returned v ∧ Q21_00 Z b sa cs h0 n0 v U'.heap L ∧ FrameEnd U o U' L oR6.cells oR6.slots) := by
  refine MetFree.of_bodySF (plainFor_of_name pn23) hisR ?_
  intro p e s m args below meth c s₁ Bd hml0 hP hK
  obtain ⟨rfl, hZ, hh⟩ := hP
  have hx := Bd.exec
  have hby := Bd.bytes
  have hml : c.maxLocals = 2 := hml0
  have hown : s.vm.findClass oA = some m.cls := findClass_of_methodNamed Bd.named
  have X0 : Stand p l e oR6 s m #[(.ref b), (.ref sa)] below meth c s₁ [] 0 0 := Stand.of_body Bd
  have e0 : s₁.heap = h0 := by rw [← hh, Bd.state]; rfl
  have N0 := Fr.nil n0
  have pre0 := own_pre (p := p) (e := e) (below := below) (s₁ := s₁) (ef21_00 m b sa)
  obtain ⟨T1, X1, e1, st1⟩ := getS2 X0 hx hZ hown (host := "") (Or.inl (ow hw 80 rfl)) Via.refl e0 (Cs.ext Ox.2) (g := (mkF m 0 #[oa b, oa sa] [])) rfl (hb hby d21_0)
  obtain ⟨T2, X2, e2, st2⟩ := getF X1 hx hZ hown (host := "") (Or.inl (ow hw 83 rfl)) Via.refl e1 Bc (g := (mkF m 7 #[oa b, oa sa] [(.ref b)])) rfl rfl (hb hby d21_7)
  obtain ⟨cq3, kq3, q3a, q3b, q3c⟩ := isOf hZ e2 Es
  obtain ⟨_, _, ⟨T3, L3, k3, n3⟩, -, X3, ⟨Lc3, hQ3, l3, y3, z3⟩, st3⟩ := X2.virtualBack hx (y := oM13) (z := oM13) hown (mvT hZ (ow hw 122 rfl)) (mvT hZ (ow hw 101 rfl)) (notFace_of_selects (args := #[]) (mvT hZ (ow hw 103 rfl))) (mvT hZ (ow hw 103 rfl)) (mvT hZ (ow hw 102 rfl)) (by decide) (backOf (W := 1) (rm18 l Z a0 hw [] sa (0 : Int32) cs h0 n0 Z0 Sc (by first | assumption | decide | omega) Cs hcs Ox) hZ (ow hw 104 rfl) (ow hw 3 rfl) (by decide) (by decide)) q3a q3c (g := (mkF m 11 #[oa b, oa sa] [(.ref sa), (.int 0)])) rfl (by rw [hml]; rfl) (Steps.refl _) (argsL := []) (rest := [(.int 0)]) (lenOf pd11 rfl) rfl (Nat.le_of_eq rfl) (hb hby d21_11) (fun _ _ => ⟨rfl, e2, (by decide : 0 + 0 ≤ _), (by decide : 0 + 0 ≤ _)⟩)
  dsimp only [Pt.U, Pt.locs, Pt.cells, Pt.slots] at X3 l3 y3 z3 st3 hQ3
  subst l3 y3 z3
  obtain ⟨rfl, N3q, e3⟩ := hQ3
  have N3 := Fr.app N0 N3q
  obtain ⟨fsZ, hrZ, hrun, hended, hW, hsame⟩ := X3.leave (v := none) (fun _ => rfl)
  refine ⟨_, _, pre0 _ ?_, hrun, hended, _, _, rfl, ?_, ⟨_, rfl⟩, hW, hsame.mono (by decide) (by decide)⟩
  · show Steps _ _ _ (s₁.setTop (mkF m 0 #[oa b, oa sa] [])) _
    refine st1 _ ?_
    refine XS.ifNo X1.here hx rfl (hb hby d21_3) rfl ((if0 _ _).trans (feq hcs).1) ?_
    refine XS.aloadN X1.here hx rfl (hb hby d21_6) rfl rfl ?_
    refine st2 _ ?_
    refine XS.aloadN X2.here hx rfl (hb hby d21_10) rfl rfl ?_
    refine st3.trans ?_
    refine XS.icmpYes X3.here hx rfl (pc0 := 14) (pc' := 21) rfl (hb hby d21_14) rfl (teq (by decide)).1 (by decide) (by decide) ?_
    show Steps _ _ _ (T3.setTop (mkF m 21 #[oa b, oa sa] [])) _
    exact X3.returnOut hx Bd.returns (hb hby d21_21) hrZ
  · show Q21_00 Z b sa cs h0 n0 _ T3.heap _
    rw [e3]
    exact ⟨rfl, N3, rfl⟩
theorem ef21_11 (m : MethodId) (b : Addr) (sa : Addr) : entryFrame m #[(.ref b), (.ref sa)] 2 = mkF m 0 #[oa b, oa sa] [] := by first | (simp [entryFrame, mkF, argsToLocals, Value.category]; done) | rfl
def Q21_11 (Z : State) (b : Addr) (sa : Addr) (cs : Int32) (h0 : Heap) (n0 : Nat) (v : Option Value) (h : Heap) (L : List Loc) : Prop := v = none ∧ Fr n0 L ∧ h = h0
theorem rm21_11 (l : Launch) (Z : State) (a0 : Array Value) (hw : ∀ d ∈ tables_1, d.before a0 Z = true) (ws : List Jvm.Cond) (b : Addr) (sa : Addr) (cs : Int32) (h0 : Heap) (n0 : Nat) (Z0 : n0 ≤ h0.size) (Eb : Exa Z h0 b oB) (Bc : Fld Z h0 b oA "coder" "B" (.int 1)) (Es : Exa Z h0 sa oS) (Sc : Fld Z h0 sa oS "coder" "B" (.int 1)) (Cs : Sta Z Z.heap oS "COMPACT_STRINGS" "Z" (.int cs)) (hcs : ¬ (cs = (0 : Int32))) (Ox : Old Z n0 h0) :
    MetFree l oM35 (head1 (Jvm.Cond.code oM35 zc35 2 none :: ws) oR6) (fun a U => a = #[(.ref b), (.ref sa)] ∧ Z.Warmed39 U.vm ∧ U.heap = h0) (fun _ _ _ _ _ => True) (fun _ U o U' => ∃ v L, o = .returned v ∧ Q21_11 Z b sa cs h0 n0 v U'.heap L ∧ FrameEnd U o U' L oR6.cells oR6.slots) := by
  refine MetFree.of_bodySF (plainFor_of_name pn23) hisR ?_
  intro p e s m args below meth c s₁ Bd hml0 hP hK
  obtain ⟨rfl, hZ, hh⟩ := hP
  have hx := Bd.exec
  have hby := Bd.bytes
  have hml : c.maxLocals = 2 := hml0
  have hown : s.vm.findClass oA = some m.cls := findClass_of_methodNamed Bd.named
  have X0 : Stand p l e oR6 s m #[(.ref b), (.ref sa)] below meth c s₁ [] 0 0 := Stand.of_body Bd
  have e0 : s₁.heap = h0 := by rw [← hh, Bd.state]; rfl
  have N0 := Fr.nil n0
  have pre0 := own_pre (p := p) (e := e) (below := below) (s₁ := s₁) (ef21_11 m b sa)
  obtain ⟨T1, X1, e1, st1⟩ := getS2 X0 hx hZ hown (host := "") (Or.inl (ow hw 80 rfl)) Via.refl e0 (Cs.ext Ox.2) (g := (mkF m 0 #[oa b, oa sa] [])) rfl (hb hby d21_0)
  obtain ⟨T2, X2, e2, st2⟩ := getF X1 hx hZ hown (host := "") (Or.inl (ow hw 83 rfl)) Via.refl e1 Bc (g := (mkF m 7 #[oa b, oa sa] [(.ref b)])) rfl rfl (hb hby d21_7)
  obtain ⟨cq3, kq3, q3a, q3b, q3c⟩ := isOf hZ e2 Es
  obtain ⟨_, _, ⟨T3, L3, k3, n3⟩, -, X3, ⟨Lc3, hQ3, l3, y3, z3⟩, st3⟩ := X2.virtualBack hx (y := oM13) (z := oM13) hown (mvT hZ (ow hw 122 rfl)) (mvT hZ (ow hw 101 rfl)) (notFace_of_selects (args := #[]) (mvT hZ (ow hw 103 rfl))) (mvT hZ (ow hw 103 rfl)) (mvT hZ (ow hw 102 rfl)) (by decide) (backOf (W := 1) (rm18 l Z a0 hw [] sa (1 : Int32) cs h0 n0 Z0 Sc (by first | assumption | decide | omega) Cs hcs Ox) hZ (ow hw 104 rfl) (ow hw 3 rfl) (by decide) (by decide)) q3a q3c (g := (mkF m 11 #[oa b, oa sa] [(.ref sa), (.int 1)])) rfl (by rw [hml]; rfl) (Steps.refl _) (argsL := []) (rest := [(.int 1)]) (lenOf pd11 rfl) rfl (Nat.le_of_eq rfl) (hb hby d21_11) (fun _ _ => ⟨rfl, e2, (by decide : 0 + 0 ≤ _), (by decide : 0 + 0 ≤ _)⟩)
  dsimp only [Pt.U, Pt.locs, Pt.cells, Pt.slots] at X3 l3 y3 z3 st3 hQ3
  subst l3 y3 z3
  obtain ⟨rfl, N3q, e3⟩ := hQ3
  have N3 := Fr.app N0 N3q
  obtain ⟨fsZ, hrZ, hrun, hended, hW, hsame⟩ := X3.leave (v := none) (fun _ => rfl)
  refine ⟨_, _, pre0 _ ?_, hrun, hended, _, _, rfl, ?_, ⟨_, rfl⟩, hW, hsame.mono (by decide) (by decide)⟩
  · show Steps _ _ _ (s₁.setTop (mkF m 0 #[oa b, oa sa] [])) _
    refine st1 _ ?_
    refine XS.ifNo X1.here hx rfl (hb hby d21_3) rfl ((if0 _ _).trans (feq hcs).1) ?_
    refine XS.aloadN X1.here hx rfl (hb hby d21_6) rfl rfl ?_
    refine st2 _ ?_
    refine XS.aloadN X2.here hx rfl (hb hby d21_10) rfl rfl ?_
    refine st3.trans ?_
    refine XS.icmpYes X3.here hx rfl (pc0 := 14) (pc' := 21) rfl (hb hby d21_14) rfl (teq (by decide)).1 (by decide) (by decide) ?_
    show Steps _ _ _ (T3.setTop (mkF m 21 #[oa b, oa sa] [])) _
    exact X3.returnOut hx Bd.returns (hb hby d21_21) hrZ
  · show Q21_11 Z b sa cs h0 n0 _ T3.heap _
    rw [e3]
    exact ⟨rfl, N3, rfl⟩
theorem d21_17 : decode zc35 17 = .ok (.aload_n 0, 1) := by decide +kernel
theorem d21_18 : decode zc35 18 = .ok (.invokevirtual 195, 3) := by decide +kernel
theorem pd28 : parseMethodDescriptor "()V" = some ⟨[], none⟩ := by decide +kernel
theorem ef21_10 (m : MethodId) (b : Addr) (sa : Addr) : entryFrame m #[(.ref b), (.ref sa)] 2 = mkF m 0 #[oa b, oa sa] [] := by first | (simp [entryFrame, mkF, argsToLocals, Value.category]; done) | rfl
def Q21_10 (Z : State) (b : Addr) (sa : Addr) (cs : Int32) (h0 : Heap) (n0 : Nat) (v : Option Value) (h : Heap) (L : List Loc) : Prop := v = none ∧ Fr n0 L ∧ h = h0
theorem rm21_10 (l : Launch) (Z : State) (a0 : Array Value) (hw : ∀ d ∈ tables_1, d.before a0 Z = true) (ws : List Jvm.Cond) (b : Addr) (sa : Addr) (cs : Int32) (h0 : Heap) (n0 : Nat) (Z0 : n0 ≤ h0.size) (Eb : Exa Z h0 b oB) (Bc : Fld Z h0 b oA "coder" "B" (.int 1)) (Es : Exa Z h0 sa oS) (Sc : Fld Z h0 sa oS "coder" "B" (.int 0)) (Cs : Sta Z Z.heap oS "COMPACT_STRINGS" "Z" (.int cs)) (hcs : ¬ (cs = (0 : Int32))) (Ox : Old Z n0 h0) :
    MetFree l oM35 (head1 (Jvm.Cond.code oM35 zc35 2 none :: ws) oR25) (fun a U => a = #[(.ref b), (.ref sa)] ∧ Z.Warmed39 U.vm ∧ U.heap = h0) (fun _ _ _ _ _ => True) (fun _ U o U' => ∃ v L, o = .returned v ∧ Q21_10 Z b sa cs h0 n0 v U'.heap L ∧ FrameEnd U o U' L oR25.cells oR25.slots) := by
  refine MetFree.of_bodySF (plainFor_of_name pn23) hisR ?_
  intro p e s m args below meth c s₁ Bd hml0 hP hK
  obtain ⟨rfl, hZ, hh⟩ := hP
  have hx := Bd.exec
  have hby := Bd.bytes
  have hml : c.maxLocals = 2 := hml0
  have hown : s.vm.findClass oA = some m.cls := findClass_of_methodNamed Bd.named
  have X0 : Stand p l e oR25 s m #[(.ref b), (.ref sa)] below meth c s₁ [] 0 0 := Stand.of_body Bd
  have e0 : s₁.heap = h0 := by rw [← hh, Bd.state]; rfl
  have N0 := Fr.nil n0
  have pre0 := own_pre (p := p) (e := e) (below := below) (s₁ := s₁) (ef21_10 m b sa)
  obtain ⟨T1, X1, e1, st1⟩ := getS2 X0 hx hZ hown (host := "") (Or.inl (ow hw 80 rfl)) Via.refl e0 (Cs.ext Ox.2) (g := (mkF m 0 #[oa b, oa sa] [])) rfl (hb hby d21_0)
  obtain ⟨T2, X2, e2, st2⟩ := getF X1 hx hZ hown (host := "") (Or.inl (ow hw 83 rfl)) Via.refl e1 Bc (g := (mkF m 7 #[oa b, oa sa] [(.ref b)])) rfl rfl (hb hby d21_7)
  obtain ⟨cq3, kq3, q3a, q3b, q3c⟩ := isOf hZ e2 Es
  obtain ⟨_, _, ⟨T3, L3, k3, n3⟩, -, X3, ⟨Lc3, hQ3, l3, y3, z3⟩, st3⟩ := X2.virtualBack hx (y := oM13) (z := oM13) hown (mvT hZ (ow hw 122 rfl)) (mvT hZ (ow hw 101 rfl)) (notFace_of_selects (args := #[]) (mvT hZ (ow hw 103 rfl))) (mvT hZ (ow hw 103 rfl)) (mvT hZ (ow hw 102 rfl)) (by decide) (backOf (W := 1) (rm18 l Z a0 hw [] sa (0 : Int32) cs h0 n0 Z0 Sc (by first | assumption | decide | omega) Cs hcs Ox) hZ (ow hw 104 rfl) (ow hw 3 rfl) (by decide) (by decide)) q3a q3c (g := (mkF m 11 #[oa b, oa sa] [(.ref sa), (.int 1)])) rfl (by rw [hml]; rfl) (Steps.refl _) (argsL := []) (rest := [(.int 1)]) (lenOf pd11 rfl) rfl (Nat.le_of_eq rfl) (hb hby d21_11) (fun _ _ => ⟨rfl, e2, (by decide : 0 + 0 ≤ _), (by decide : 0 + 0 ≤ _)⟩)
  dsimp only [Pt.U, Pt.locs, Pt.cells, Pt.slots] at X3 l3 y3 z3 st3 hQ3
  subst l3 y3 z3
  obtain ⟨rfl, N3q, e3⟩ := hQ3
  have N3 := Fr.app N0 N3q
  obtain ⟨cq4, q4, q4'⟩ := Eb.cell
  obtain ⟨_, _, ⟨T4, L4, k4, n4⟩, -, X4, ⟨Lc4, hQ4, l4, y4, z4⟩, st4⟩ := X3.privateBack hx (y := oM34) hown (mvT hZ (ow hw 228 rfl)) (mvT hZ (ow hw 229 rfl)) (own_selN hZ (notFace_of_selects (args := #[]) (mvT hZ (ow hw 231 rfl))) (ow hw 230 rfl) (ow hw 229 rfl) (by decide)) (Cond.privateMethod_at (mvP hZ (ow hw 230 rfl) (args := #[]))) (mvT hZ (ow hw 232 rfl)) (by decide) (backOf (W := 0) (rm46k1 l Z a0 hw [] b cs h0 n0 Z0 Bc Eb Cs hcs Ox) hZ (ow hw 232 rfl) (ow hw 77 rfl) (by decide) (by decide)) (g := (mkF m 18 #[oa b, oa sa] [(.ref b)])) rfl (by rw [hml]; rfl) (Steps.refl _) (a := b) (by rw [e3]; exact q4) q4' (argsL := []) (rest := []) (lenOf pd28 rfl) rfl (Nat.le_of_eq rfl) (hb hby d21_18) (fun _ _ => ⟨rfl, e3, (by decide : 0 + 0 ≤ _), (by decide : 0 + 0 ≤ _)⟩)
  dsimp only [Pt.U, Pt.locs, Pt.cells, Pt.slots] at X4 l4 y4 z4 st4 hQ4
  subst l4 y4 z4
  obtain ⟨rfl, N4q, e4⟩ := hQ4
  have N4 := Fr.app N3 N4q
  obtain ⟨fsZ, hrZ, hrun, hended, hW, hsame⟩ := X4.leave (v := none) (fun _ => rfl)
  refine ⟨_, _, pre0 _ ?_, hrun, hended, _, _, rfl, ?_, ⟨_, rfl⟩, hW, hsame.mono (by decide) (by decide)⟩
  · show Steps _ _ _ (s₁.setTop (mkF m 0 #[oa b, oa sa] [])) _
    refine st1 _ ?_
    refine XS.ifNo X1.here hx rfl (hb hby d21_3) rfl ((if0 _ _).trans (feq hcs).1) ?_
    refine XS.aloadN X1.here hx rfl (hb hby d21_6) rfl rfl ?_
    refine st2 _ ?_
    refine XS.aloadN X2.here hx rfl (hb hby d21_10) rfl rfl ?_
    refine st3.trans ?_
    refine XS.icmpNo X3.here hx rfl (hb hby d21_14) rfl (feq (by decide)).1 ?_
    refine XS.aloadN X3.here hx rfl (hb hby d21_17) rfl rfl ?_
    show Steps _ _ _ (T3.setTop (mkF m 18 #[oa b, oa sa] [(.ref b)])) _
    refine st4.trans ?_
    show Steps _ _ _ (T4.setTop (mkF m 21 #[oa b, oa sa] [])) _
    exact X4.returnOut hx Bd.returns (hb hby d21_21) hrZ
  · show Q21_10 Z b sa cs h0 n0 _ T4.heap _
    rw [e4]
    exact ⟨rfl, N4, rfl⟩
theorem ef21_01 (m : MethodId) (b : Addr) (sa : Addr) : entryFrame m #[(.ref b), (.ref sa)] 2 = mkF m 0 #[oa b, oa sa] [] := by first | (simp [entryFrame, mkF, argsToLocals, Value.category]; done) | rfl
def Q21_01 (Z : State) (b : Addr) (sa : Addr) (va : Addr) (kv : ClassId) (cn : Int32) (us : List Int32) (cs : Int32) (fm : Value) (h0 : Heap) (n0 : Nat) (v : Option Value) (h : Heap) (L : List Loc) : Prop := ∃ (va2 : Addr) (kv2 : ClassId), v = none ∧ Fr n0 L ∧ Keep h0 h [b] ∧ n0 ≤ va2 ∧ h0.size ≤ va2 ∧ Exa Z h b oB ∧ Fld Z h b oA "value" "[B" (.ref va2) ∧ Fld Z h b oA "coder" "B" (.int 1) ∧ Fld Z h b oA "count" "I" (.int cn) ∧ Fld Z h b oA "maybeLatin1" "Z" (.int 0) ∧ Arv Z h va2 kv2 .byte (32 : Int32) (own_ub us) (.int 0)
theorem rm21_01 (l : Launch) (Z : State) (a0 : Array Value) (hw : ∀ d ∈ tables_1, d.before a0 Z = true) (ws : List Jvm.Cond) (b : Addr) (sa : Addr) (va : Addr) (kv : ClassId) (cn : Int32) (us : List Int32) (cs : Int32) (fm : Value) (h0 : Heap) (n0 : Nat) (Z0 : n0 ≤ h0.size) (F0 : Exa Z h0 b oB) (F1 : Fld Z h0 b oA "value" "[B" (.ref va)) (F2 : Fld Z h0 b oA "coder" "B" (.int 0)) (F3 : Fld Z h0 b oA "count" "I" (.int cn)) (F4 : Fld Z h0 b oA "maybeLatin1" "Z" (.int 0)) (F5 : Arv Z h0 va kv .byte (16 : Int32) (own_lb us) (.int 0)) (gb : n0 ≤ b) (nbv : b ≠ va) (Es : Exa Z h0 sa oS) (Sc : Fld Z h0 sa oS "coder" "B" (.int 1)) (Cs : Sta Z Z.heap oS "COMPACT_STRINGS" "Z" (.int cs)) (hcs : ¬ (cs = (0 : Int32))) (Ox : Old Z n0 h0) (Fm : Sta Z Z.heap "jdk/internal/util/Preconditions" "SIOOBE_FORMATTER" "Ljava/util/function/BiFunction;" fm) (hfm : fm.isRef = true) (Ua : Sta Z Z.heap o6 "$assertionsDisabled" "Z" (.int 1)) (Uh : Sta Z Z.heap o6 "HI_BYTE_SHIFT" "I" (.int 0)) (Ul : Sta Z Z.heap o6 "LO_BYTE_SHIFT" "I" (.int 8)) (hn : cn.toInt = us.length) (hn16 : cn.toInt ≤ 16) (hla : own_lat us) (hchs : own_chs us) :
    MetFree l oM35 (head1 (Jvm.Cond.code oM35 zc35 2 none :: ws) oR26) (fun a U => a = #[(.ref b), (.ref sa)] ∧ Z.Warmed39 U.vm ∧ U.heap = h0) (fun _ _ _ _ _ => True) (fun _ U o U' => ∃ v L, o = .returned v ∧ Q21_01 Z b sa va kv cn us cs fm h0 n0 v U'.heap L ∧ FrameEnd U o U' L oR26.cells oR26.slots) := by
  refine MetFree.of_bodySF (plainFor_of_name pn23) hisR ?_
  intro p e s m args below meth c s₁ Bd hml0 hP hK
  obtain ⟨rfl, hZ, hh⟩ := hP
  have hx := Bd.exec
  have hby := Bd.bytes
  have hml : c.maxLocals = 2 := hml0
  have hown : s.vm.findClass oA = some m.cls := findClass_of_methodNamed Bd.named
  have X0 : Stand p l e oR26 s m #[(.ref b), (.ref sa)] below meth c s₁ [] 0 0 := Stand.of_body Bd
  have e0 : s₁.heap = h0 := by rw [← hh, Bd.state]; rfl
  have N0 := Fr.nil n0
  have pre0 := own_pre (p := p) (e := e) (below := below) (s₁ := s₁) (ef21_01 m b sa)
  obtain ⟨T1, X1, e1, st1⟩ := getS2 X0 hx hZ hown (host := "") (Or.inl (ow hw 80 rfl)) Via.refl e0 (Cs.ext Ox.2) (g := (mkF m 0 #[oa b, oa sa] [])) rfl (hb hby d21_0)
  obtain ⟨T2, X2, e2, st2⟩ := getF X1 hx hZ hown (host := "") (Or.inl (ow hw 83 rfl)) Via.refl e1 F2 (g := (mkF m 7 #[oa b, oa sa] [(.ref b)])) rfl rfl (hb hby d21_7)
  obtain ⟨cq3, kq3, q3a, q3b, q3c⟩ := isOf hZ e2 Es
  obtain ⟨_, _, ⟨T3, L3, k3, n3⟩, -, X3, ⟨Lc3, hQ3, l3, y3, z3⟩, st3⟩ := X2.virtualBack hx (y := oM13) (z := oM13) hown (mvT hZ (ow hw 122 rfl)) (mvT hZ (ow hw 101 rfl)) (notFace_of_selects (args := #[]) (mvT hZ (ow hw 103 rfl))) (mvT hZ (ow hw 103 rfl)) (mvT hZ (ow hw 102 rfl)) (by decide) (backOf (W := 1) (rm18 l Z a0 hw [] sa (1 : Int32) cs h0 n0 Z0 Sc (by first | assumption | decide | omega) Cs hcs Ox) hZ (ow hw 104 rfl) (ow hw 3 rfl) (by decide) (by decide)) q3a q3c (g := (mkF m 11 #[oa b, oa sa] [(.ref sa), (.int 0)])) rfl (by rw [hml]; rfl) (Steps.refl _) (argsL := []) (rest := [(.int 0)]) (lenOf pd11 rfl) rfl (Nat.le_of_eq rfl) (hb hby d21_11) (fun _ _ => ⟨rfl, e2, (by decide : 0 + 0 ≤ _), (by decide : 0 + 0 ≤ _)⟩)
  dsimp only [Pt.U, Pt.locs, Pt.cells, Pt.slots] at X3 l3 y3 z3 st3 hQ3
  subst l3 y3 z3
  obtain ⟨rfl, N3q, e3⟩ := hQ3
  have N3 := Fr.app N0 N3q
  obtain ⟨cq4, q4, q4'⟩ := F0.cell
  obtain ⟨_, _, ⟨T4, L4, k4, n4⟩, -, X4, ⟨Lc4, hQ4, l4, y4, z4⟩, st4⟩ := X3.privateBack hx (y := oM34) hown (mvT hZ (ow hw 228 rfl)) (mvT hZ (ow hw 229 rfl)) (own_selN hZ (notFace_of_selects (args := #[]) (mvT hZ (ow hw 231 rfl))) (ow hw 230 rfl) (ow hw 229 rfl) (by decide)) (Cond.privateMethod_at (mvP hZ (ow hw 230 rfl) (args := #[]))) (mvT hZ (ow hw 232 rfl)) (by decide) (backOf (W := 0) (rm46k0 l Z a0 hw [] b va kv cn us cs fm h0 n0 Z0 F0 F1 F2 F3 F4 F5 gb nbv Cs hcs Ox Fm hfm Ua Uh Ul hn hn16 hla hchs) hZ (ow hw 232 rfl) (ow hw 77 rfl) (by decide) (by decide)) (g := (mkF m 18 #[oa b, oa sa] [(.ref b)])) rfl (by rw [hml]; rfl) (Steps.refl _) (a := b) (by rw [e3]; exact q4) q4' (argsL := []) (rest := []) (lenOf pd28 rfl) rfl (Nat.le_of_eq rfl) (hb hby d21_18) (fun _ _ => ⟨rfl, e3, (by decide : 0 + 1 ≤ _), (by decide : 0 + 32 ≤ _)⟩)
  dsimp only [Pt.U, Pt.locs, Pt.cells, Pt.slots] at X4 l4 y4 z4 st4 hQ4
  subst l4 y4 z4
  obtain ⟨va2_5, kv2_6, rfl, N4q, K4, u4_0, u4_1, f4_0, f4_1, f4_2, f4_3, f4_4, f4_5⟩ := hQ4
  have N4 := Fr.app N3 N4q
  have Z7 : n0 ≤ T4.heap.size := Nat.le_trans Z0 K4.1
  have K8 : Keep h0 T4.heap [b] := (Keep.refl h0 [b]).trans K4 (allS (P := fun x => x ∈ _ ∨ _) (Or.inl (List.mem_of_getElem? (i := 0) rfl)) all0)
  have ne9 := own_nc F0.lt u4_1
  have ne10 := own_nc F5.lt u4_1
  have ne11 := own_nc Es.lt u4_1
  have sz_va2_5 : h0.size ≤ va2_5 := Nat.le_trans (Keep.refl h0 [b]).1 u4_1
  obtain ⟨fsZ, hrZ, hrun, hended, hW, hsame⟩ := X4.leave (v := none) (fun _ => rfl)
  refine ⟨_, _, pre0 _ ?_, hrun, hended, _, _, rfl, ?_, ⟨_, rfl⟩, hW, hsame.mono (by decide) (by decide)⟩
  · show Steps _ _ _ (s₁.setTop (mkF m 0 #[oa b, oa sa] [])) _
    refine st1 _ ?_
    refine XS.ifNo X1.here hx rfl (hb hby d21_3) rfl ((if0 _ _).trans (feq hcs).1) ?_
    refine XS.aloadN X1.here hx rfl (hb hby d21_6) rfl rfl ?_
    refine st2 _ ?_
    refine XS.aloadN X2.here hx rfl (hb hby d21_10) rfl rfl ?_
    refine st3.trans ?_
    refine XS.icmpNo X3.here hx rfl (hb hby d21_14) rfl (feq (by decide)).1 ?_
    refine XS.aloadN X3.here hx rfl (hb hby d21_17) rfl rfl ?_
    show Steps _ _ _ (T3.setTop (mkF m 18 #[oa b, oa sa] [(.ref b)])) _
    refine st4.trans ?_
    show Steps _ _ _ (T4.setTop (mkF m 21 #[oa b, oa sa] [])) _
    exact X4.returnOut hx Bd.returns (hb hby d21_21) hrZ
  · show Q21_01 Z b sa va kv cn us cs fm h0 n0 _ T4.heap _
    exact ⟨va2_5, kv2_6, rfl, N4, K8, u4_0, sz_va2_5, f4_0, f4_1, f4_2, f4_3, f4_4, f4_5⟩
theorem d22_0 : decode zc36 0 = .ok (.aload_n 0, 1) := by decide +kernel
theorem d22_1 : decode zc36 1 = .ok (.invokevirtual 335, 3) := by decide +kernel
theorem d22_4 : decode zc36 4 = .ok (.iload_n 3, 1) := by decide +kernel
theorem d22_5 : decode zc36 5 = .ok (.if_icmp .ne 23, 3) := by decide +kernel
theorem d22_8 : decode zc36 8 = .ok (.aload_n 0, 1) := by decide +kernel
theorem d22_9 : decode zc36 9 = .ok (.getfield 9, 3) := by decide +kernel
theorem d22_12 : decode zc36 12 = .ok (.iconst 0, 1) := by decide +kernel
theorem d22_13 : decode zc36 13 = .ok (.aload_n 1, 1) := by decide +kernel
theorem d22_14 : decode zc36 14 = .ok (.iload_n 2, 1) := by decide +kernel
theorem d22_15 : decode zc36 15 = .ok (.iload_n 3, 1) := by decide +kernel
theorem d22_16 : decode zc36 16 = .ok (.ishl, 1) := by decide +kernel
theorem d22_17 : decode zc36 17 = .ok (.aload_n 0, 1) := by decide +kernel
theorem d22_18 : decode zc36 18 = .ok (.getfield 9, 3) := by decide +kernel
theorem d22_21 : decode zc36 21 = .ok (.arraylength, 1) := by decide +kernel
theorem d22_22 : decode zc36 22 = .ok (.invokestatic 212, 3) := by decide +kernel
theorem d22_25 : decode zc36 25 = .ok (.goto 18, 3) := by decide +kernel
theorem d22_43 : decode zc36 43 = .ok (.return_, 1) := by decide +kernel
theorem ef22_00 (m : MethodId) (sa : Addr) (va : Addr) (cn : Int32) : entryFrame m #[(.ref sa), (.ref va), (.int cn), (.int 0)] 4 = mkF m 0 #[oa sa, oa va, oi cn, oi 0] [] := by first | (simp [entryFrame, mkF, argsToLocals, Value.category]; done) | rfl
def Q22_00 (Z : State) (sa : Addr) (va : Addr) (cn : Int32) (vb : Addr) (kb : ClassId) (nb : Int32) (wx : List Int32) (kv : ClassId) (us : List Int32) (cs : Int32) (h0 : Heap) (n0 : Nat) (v : Option Value) (h : Heap) (L : List Loc) : Prop := v = none ∧ Fr n0 L ∧ Keep h0 h [va] ∧ Arv Z h va kv .byte (16 : Int32) (own_lb (us ++ wx)) (.int 0)
theorem rm22_00 (l : Launch) (Z : State) (a0 : Array Value) (hw : ∀ d ∈ tables_1, d.before a0 Z = true) (ws : List Jvm.Cond) (sa : Addr) (va : Addr) (cn : Int32) (vb : Addr) (kb : ClassId) (nb : Int32) (wx : List Int32) (kv : ClassId) (us : List Int32) (cs : Int32) (h0 : Heap) (n0 : Nat) (Z0 : n0 ≤ h0.size) (F0 : Exa Z h0 sa oS) (F1 : Fld Z h0 sa oS "coder" "B" (.int 0)) (F2 : Fld Z h0 sa oS "value" "[B" (.ref vb)) (F3 : Arv Z h0 vb kb .byte nb (own_lb wx) (.int 0)) (Vx : Arv Z h0 va kv .byte (16 : Int32) (own_lb us) (.int 0)) (gx : n0 ≤ va) (hcn : cn.toInt = us.length) (hnb : nb.toInt = wx.length) (hsm : us.length + wx.length ≤ 16) (Cs : Sta Z Z.heap oS "COMPACT_STRINGS" "Z" (.int cs)) (hcs : ¬ (cs = (0 : Int32))) (Ox : Old Z n0 h0) :
    MetFree l oM36 (head1 (Jvm.Cond.code oM36 zc36 4 none :: ws) oR27) (fun a U => a = #[(.ref sa), (.ref va), (.int cn), (.int 0)] ∧ Z.Warmed39 U.vm ∧ U.heap = h0) (fun _ _ _ _ _ => True) (fun _ U o U' => ∃ v L, o = .returned v ∧ Q22_00 Z sa va cn vb kb nb wx kv us cs h0 n0 v U'.heap L ∧ FrameEnd U o U' L oR27.cells oR27.slots) := by
  refine MetFree.of_bodySF (plainFor_of_name pn3) hisR ?_
  intro p e s m args below meth c s₁ Bd hml0 hP hK
  obtain ⟨rfl, hZ, hh⟩ := hP
  have hx := Bd.exec
  have hby := Bd.bytes
  have hml : c.maxLocals = 4 := hml0
  have hown : s.vm.findClass oS = some m.cls := findClass_of_methodNamed Bd.named
  have X0 : Stand p l e oR27 s m #[(.ref sa), (.ref va), (.int cn), (.int 0)] below meth c s₁ [] 0 0 := Stand.of_body Bd
  have e0 : s₁.heap = h0 := by rw [← hh, Bd.state]; rfl
  have N0 := Fr.nil n0
  have pre0 := own_pre (p := p) (e := e) (below := below) (s₁ := s₁) (ef22_00 m sa va cn)
  obtain ⟨cq1, kq1, q1a, q1b, q1c⟩ := isOf hZ e0 F0
  obtain ⟨_, _, ⟨T1, L1, k1, n1⟩, -, X1, ⟨Lc1, hQ1, l1, y1, z1⟩, st1⟩ := X0.virtualBack hx (y := oM13) (z := oM13) hown (mvT hZ (ow hw 100 rfl)) (mvT hZ (ow hw 101 rfl)) (notFace_of_selects (args := #[]) (mvT hZ (ow hw 103 rfl))) (mvT hZ (ow hw 103 rfl)) (mvT hZ (ow hw 102 rfl)) (by decide) (backOf (W := 0) (rm18 l Z a0 hw [] sa (0 : Int32) cs h0 n0 Z0 F1 (by first | assumption | decide | omega) Cs hcs Ox) hZ (ow hw 104 rfl) (ow hw 3 rfl) (by decide) (by decide)) q1a q1c (g := (mkF m 1 #[oa sa, oa va, oi cn, oi 0] [(.ref sa)])) rfl (by rw [hml]; rfl) (Steps.refl _) (argsL := []) (rest := []) (lenOf pd11 rfl) rfl (Nat.le_of_eq rfl) (hb hby d22_1) (fun _ _ => ⟨rfl, e0, (by decide : 0 + 0 ≤ _), (by decide : 0 + 0 ≤ _)⟩)
  dsimp only [Pt.U, Pt.locs, Pt.cells, Pt.slots] at X1 l1 y1 z1 st1 hQ1
  subst l1 y1 z1
  obtain ⟨rfl, N1q, e1⟩ := hQ1
  have N1 := Fr.app N0 N1q
  obtain ⟨T2, X2, e2, st2⟩ := getF X1 hx hZ hown (host := "") (Or.inl (ow hw 23 rfl)) Via.refl e1 F2 (g := (mkF m 9 #[oa sa, oa va, oi cn, oi 0] [(.ref sa)])) rfl rfl (hb hby d22_9)
  obtain ⟨T3, X3, e3, st3⟩ := getF X2 hx hZ hown (host := "") (Or.inl (ow hw 23 rfl)) Via.refl e2 F2 (g := (mkF m 18 #[oa sa, oa va, oi cn, oi 0] [(.ref sa), (.int (cn <<< ((0 : Int32) &&& 31))), (.ref va), (.int 0), (.ref vb)])) rfl rfl (hb hby d22_18)
  obtain ⟨c4, Arc4, -, Sc4, Mc4, -, -⟩ := id F3
  have pd5 := Arv.pad Vx (pad_rep (own_lb us) (.int 0) ((own_lb wx)).length)
  have dp5 := own_dp0 hcn hnb hsm
  obtain ⟨T5, h5, L5, X5, e5, N5, K5, V5, st5⟩ := cpA X3 hx hZ hown (ow hw 128 rfl) (ow hw 131 rfl) (ow hw 129 rfl) (ow hw 130 rfl) e3 F3 pd5 (us := (own_lb wx)) (Or.inl ⟨rfl, rfl⟩) (by decide) dp5.1 dp5.2.1 dp5.2.2.1 dp5.2.2.2.1 (own_rg _ _ _ dp5.2.2.2.2.1) (by rw [dp5.2.2.2.2.1, dp5.2.2.2.2.2]; simp) N1 gx (g := (mkF m 22 #[oa sa, oa va, oi cn, oi 0] [(.int nb), (.int (cn <<< ((0 : Int32) &&& 31))), (.ref va), (.int 0), (.ref vb)])) rfl (by rw [hml]; rfl) rfl (hb hby d22_22) (by decide) (W := 0) (Nat.le_of_eq rfl) (by decide)
  have Z6 : n0 ≤ h5.size := Nat.le_trans Z0 K5.1
  have K7 : Keep h0 h5 [va] := (Keep.refl h0 [va]).trans K5 (allS (P := fun x => x ∈ _ ∨ _) (Or.inl (List.mem_of_getElem? (i := 0) rfl)) all0)
  have U5 : Arv Z h5 va kv .byte (16 : Int32) (own_lb (us ++ wx)) (.int 0) := by rw [own_lba]; have q := V5; rw [dp5.2.2.2.2.1, dp5.2.2.2.2.2, own_cp] at q; exact q
  obtain ⟨fsZ, hrZ, hrun, hended, hW, hsame⟩ := X5.leave (v := none) (fun _ => rfl)
  refine ⟨_, _, pre0 _ ?_, hrun, hended, _, _, rfl, ?_, ⟨_, rfl⟩, hW, hsame.mono (by decide) (by decide)⟩
  · show Steps _ _ _ (s₁.setTop (mkF m 0 #[oa sa, oa va, oi cn, oi 0] [])) _
    refine XS.aloadN X0.here hx rfl (hb hby d22_0) rfl rfl ?_
    refine st1.trans ?_
    refine XS.iloadN X1.here hx rfl (hb hby d22_4) rfl  ?_
    refine XS.icmpNo X1.here hx rfl (hb hby d22_5) rfl (teq (by decide)).2 ?_
    refine XS.aloadN X1.here hx rfl (hb hby d22_8) rfl rfl ?_
    refine st2 _ ?_
    refine XS.iconst X2.here hx rfl (hb hby d22_12) ?_
    refine XS.aloadN X2.here hx rfl (hb hby d22_13) rfl rfl ?_
    show Steps _ _ _ (T2.setTop (mkF m 14 #[oa sa, oa va, oi cn, oi 0] [(.ref va), (.int 0), (.ref vb)])) _
    refine XS.iloadN X2.here hx rfl (hb hby d22_14) rfl  ?_
    refine XS.iloadN X2.here hx rfl (hb hby d22_15) rfl  ?_
    refine XS.ishl X2.here hx rfl (hb hby d22_16) rfl ?_
    refine XS.aloadN X2.here hx rfl (hb hby d22_17) rfl rfl ?_
    refine st3 _ ?_
    show Steps _ _ _ (T3.setTop (mkF m 21 #[oa sa, oa va, oi cn, oi 0] [(.ref vb), (.int (cn <<< ((0 : Int32) &&& 31))), (.ref va), (.int 0), (.ref vb)])) _
    refine X3.arraylength hx (by rw [e3]; exact Arc4.1) (State.isArrayOf_alike hZ.alike Arc4.2.1) (g := (mkF m 21 #[oa sa, oa va, oi cn, oi 0] [(.ref vb), (.int (cn <<< ((0 : Int32) &&& 31))), (.ref va), (.int 0), (.ref vb)])) rfl rfl (hb hby d22_21) _ ?_
    rw [len_of Sc4 Mc4]
    show Steps _ _ _ (T3.setTop (mkF m 22 #[oa sa, oa va, oi cn, oi 0] [(.int nb), (.int (cn <<< ((0 : Int32) &&& 31))), (.ref va), (.int 0), (.ref vb)])) _
    refine st5 _ ?_
    refine XS.goto X5.here hx rfl (pc0 := 25) (pc' := 43) rfl (hb hby d22_25) (by decide) (by decide) ?_
    show Steps _ _ _ (T5.setTop (mkF m 43 #[oa sa, oa va, oi cn, oi 0] [])) _
    exact X5.returnOut hx Bd.returns (hb hby d22_43) hrZ
  · show Q22_00 Z sa va cn vb kb nb wx kv us cs h0 n0 _ T5.heap _
    rw [e5]
    exact ⟨rfl, N5, K7, U5⟩
theorem ef22_11 (m : MethodId) (sa : Addr) (va : Addr) (cn : Int32) : entryFrame m #[(.ref sa), (.ref va), (.int cn), (.int 1)] 4 = mkF m 0 #[oa sa, oa va, oi cn, oi 1] [] := by first | (simp [entryFrame, mkF, argsToLocals, Value.category]; done) | rfl
def Q22_11 (Z : State) (sa : Addr) (va : Addr) (cn : Int32) (vb : Addr) (kb : ClassId) (nb : Int32) (wx : List Int32) (kv : ClassId) (us : List Int32) (cs : Int32) (h0 : Heap) (n0 : Nat) (v : Option Value) (h : Heap) (L : List Loc) : Prop := v = none ∧ Fr n0 L ∧ Keep h0 h [va] ∧ Arv Z h va kv .byte (32 : Int32) (own_ub (us ++ wx)) (.int 0)
theorem rm22_11 (l : Launch) (Z : State) (a0 : Array Value) (hw : ∀ d ∈ tables_1, d.before a0 Z = true) (ws : List Jvm.Cond) (sa : Addr) (va : Addr) (cn : Int32) (vb : Addr) (kb : ClassId) (nb : Int32) (wx : List Int32) (kv : ClassId) (us : List Int32) (cs : Int32) (h0 : Heap) (n0 : Nat) (Z0 : n0 ≤ h0.size) (F0 : Exa Z h0 sa oS) (F1 : Fld Z h0 sa oS "coder" "B" (.int 1)) (F2 : Fld Z h0 sa oS "value" "[B" (.ref vb)) (F3 : Arv Z h0 vb kb .byte nb (own_ub wx) (.int 0)) (Vx : Arv Z h0 va kv .byte (32 : Int32) (own_ub us) (.int 0)) (gx : n0 ≤ va) (hcn : cn.toInt = us.length) (hnb : nb.toInt = 2 * wx.length) (hsm : us.length + wx.length ≤ 16) (Cs : Sta Z Z.heap oS "COMPACT_STRINGS" "Z" (.int cs)) (hcs : ¬ (cs = (0 : Int32))) (Ox : Old Z n0 h0) :
    MetFree l oM36 (head1 (Jvm.Cond.code oM36 zc36 4 none :: ws) oR27) (fun a U => a = #[(.ref sa), (.ref va), (.int cn), (.int 1)] ∧ Z.Warmed39 U.vm ∧ U.heap = h0) (fun _ _ _ _ _ => True) (fun _ U o U' => ∃ v L, o = .returned v ∧ Q22_11 Z sa va cn vb kb nb wx kv us cs h0 n0 v U'.heap L ∧ FrameEnd U o U' L oR27.cells oR27.slots) := by
  refine MetFree.of_bodySF (plainFor_of_name pn3) hisR ?_
  intro p e s m args below meth c s₁ Bd hml0 hP hK
  obtain ⟨rfl, hZ, hh⟩ := hP
  have hx := Bd.exec
  have hby := Bd.bytes
  have hml : c.maxLocals = 4 := hml0
  have hown : s.vm.findClass oS = some m.cls := findClass_of_methodNamed Bd.named
  have X0 : Stand p l e oR27 s m #[(.ref sa), (.ref va), (.int cn), (.int 1)] below meth c s₁ [] 0 0 := Stand.of_body Bd
  have e0 : s₁.heap = h0 := by rw [← hh, Bd.state]; rfl
  have N0 := Fr.nil n0
  have pre0 := own_pre (p := p) (e := e) (below := below) (s₁ := s₁) (ef22_11 m sa va cn)
  obtain ⟨cq1, kq1, q1a, q1b, q1c⟩ := isOf hZ e0 F0
  obtain ⟨_, _, ⟨T1, L1, k1, n1⟩, -, X1, ⟨Lc1, hQ1, l1, y1, z1⟩, st1⟩ := X0.virtualBack hx (y := oM13) (z := oM13) hown (mvT hZ (ow hw 100 rfl)) (mvT hZ (ow hw 101 rfl)) (notFace_of_selects (args := #[]) (mvT hZ (ow hw 103 rfl))) (mvT hZ (ow hw 103 rfl)) (mvT hZ (ow hw 102 rfl)) (by decide) (backOf (W := 0) (rm18 l Z a0 hw [] sa (1 : Int32) cs h0 n0 Z0 F1 (by first | assumption | decide | omega) Cs hcs Ox) hZ (ow hw 104 rfl) (ow hw 3 rfl) (by decide) (by decide)) q1a q1c (g := (mkF m 1 #[oa sa, oa va, oi cn, oi 1] [(.ref sa)])) rfl (by rw [hml]; rfl) (Steps.refl _) (argsL := []) (rest := []) (lenOf pd11 rfl) rfl (Nat.le_of_eq rfl) (hb hby d22_1) (fun _ _ => ⟨rfl, e0, (by decide : 0 + 0 ≤ _), (by decide : 0 + 0 ≤ _)⟩)
  dsimp only [Pt.U, Pt.locs, Pt.cells, Pt.slots] at X1 l1 y1 z1 st1 hQ1
  subst l1 y1 z1
  obtain ⟨rfl, N1q, e1⟩ := hQ1
  have N1 := Fr.app N0 N1q
  obtain ⟨T2, X2, e2, st2⟩ := getF X1 hx hZ hown (host := "") (Or.inl (ow hw 23 rfl)) Via.refl e1 F2 (g := (mkF m 9 #[oa sa, oa va, oi cn, oi 1] [(.ref sa)])) rfl rfl (hb hby d22_9)
  obtain ⟨T3, X3, e3, st3⟩ := getF X2 hx hZ hown (host := "") (Or.inl (ow hw 23 rfl)) Via.refl e2 F2 (g := (mkF m 18 #[oa sa, oa va, oi cn, oi 1] [(.ref sa), (.int (cn <<< ((1 : Int32) &&& 31))), (.ref va), (.int 0), (.ref vb)])) rfl rfl (hb hby d22_18)
  obtain ⟨c4, Arc4, -, Sc4, Mc4, -, -⟩ := id F3
  have pd5 := Arv.pad Vx (pad_rep (own_ub us) (.int 0) ((own_ub wx)).length)
  have dp5 := own_dp1 hcn hnb hsm
  obtain ⟨T5, h5, L5, X5, e5, N5, K5, V5, st5⟩ := cpA X3 hx hZ hown (ow hw 128 rfl) (ow hw 131 rfl) (ow hw 129 rfl) (ow hw 130 rfl) e3 F3 pd5 (us := (own_ub wx)) (Or.inl ⟨rfl, rfl⟩) (by decide) dp5.1 dp5.2.1 dp5.2.2.1 dp5.2.2.2.1 (own_rg _ _ _ dp5.2.2.2.2.1) (by rw [dp5.2.2.2.2.1, dp5.2.2.2.2.2]; simp) N1 gx (g := (mkF m 22 #[oa sa, oa va, oi cn, oi 1] [(.int nb), (.int (cn <<< ((1 : Int32) &&& 31))), (.ref va), (.int 0), (.ref vb)])) rfl (by rw [hml]; rfl) rfl (hb hby d22_22) (by decide) (W := 0) (Nat.le_of_eq rfl) (by decide)
  have Z6 : n0 ≤ h5.size := Nat.le_trans Z0 K5.1
  have K7 : Keep h0 h5 [va] := (Keep.refl h0 [va]).trans K5 (allS (P := fun x => x ∈ _ ∨ _) (Or.inl (List.mem_of_getElem? (i := 0) rfl)) all0)
  have U5 : Arv Z h5 va kv .byte (32 : Int32) (own_ub (us ++ wx)) (.int 0) := by rw [own_uba]; have q := V5; rw [dp5.2.2.2.2.1, dp5.2.2.2.2.2, own_cp] at q; exact q
  obtain ⟨fsZ, hrZ, hrun, hended, hW, hsame⟩ := X5.leave (v := none) (fun _ => rfl)
  refine ⟨_, _, pre0 _ ?_, hrun, hended, _, _, rfl, ?_, ⟨_, rfl⟩, hW, hsame.mono (by decide) (by decide)⟩
  · show Steps _ _ _ (s₁.setTop (mkF m 0 #[oa sa, oa va, oi cn, oi 1] [])) _
    refine XS.aloadN X0.here hx rfl (hb hby d22_0) rfl rfl ?_
    refine st1.trans ?_
    refine XS.iloadN X1.here hx rfl (hb hby d22_4) rfl  ?_
    refine XS.icmpNo X1.here hx rfl (hb hby d22_5) rfl (teq (by decide)).2 ?_
    refine XS.aloadN X1.here hx rfl (hb hby d22_8) rfl rfl ?_
    refine st2 _ ?_
    refine XS.iconst X2.here hx rfl (hb hby d22_12) ?_
    refine XS.aloadN X2.here hx rfl (hb hby d22_13) rfl rfl ?_
    show Steps _ _ _ (T2.setTop (mkF m 14 #[oa sa, oa va, oi cn, oi 1] [(.ref va), (.int 0), (.ref vb)])) _
    refine XS.iloadN X2.here hx rfl (hb hby d22_14) rfl  ?_
    refine XS.iloadN X2.here hx rfl (hb hby d22_15) rfl  ?_
    refine XS.ishl X2.here hx rfl (hb hby d22_16) rfl ?_
    refine XS.aloadN X2.here hx rfl (hb hby d22_17) rfl rfl ?_
    refine st3 _ ?_
    show Steps _ _ _ (T3.setTop (mkF m 21 #[oa sa, oa va, oi cn, oi 1] [(.ref vb), (.int (cn <<< ((1 : Int32) &&& 31))), (.ref va), (.int 0), (.ref vb)])) _
    refine X3.arraylength hx (by rw [e3]; exact Arc4.1) (State.isArrayOf_alike hZ.alike Arc4.2.1) (g := (mkF m 21 #[oa sa, oa va, oi cn, oi 1] [(.ref vb), (.int (cn <<< ((1 : Int32) &&& 31))), (.ref va), (.int 0), (.ref vb)])) rfl rfl (hb hby d22_21) _ ?_
    rw [len_of Sc4 Mc4]
    show Steps _ _ _ (T3.setTop (mkF m 22 #[oa sa, oa va, oi cn, oi 1] [(.int nb), (.int (cn <<< ((1 : Int32) &&& 31))), (.ref va), (.int 0), (.ref vb)])) _
    refine st5 _ ?_
    refine XS.goto X5.here hx rfl (pc0 := 25) (pc' := 43) rfl (hb hby d22_25) (by decide) (by decide) ?_
    show Steps _ _ _ (T5.setTop (mkF m 43 #[oa sa, oa va, oi cn, oi 1] [])) _
    exact X5.returnOut hx Bd.returns (hb hby d22_43) hrZ
  · show Q22_11 Z sa va cn vb kb nb wx kv us cs h0 n0 _ T5.heap _
    rw [e5]
    exact ⟨rfl, N5, K7, U5⟩
theorem d22_28 : decode zc36 28 = .ok (.aload_n 0, 1) := by decide +kernel
theorem d22_29 : decode zc36 29 = .ok (.getfield 9, 3) := by decide +kernel
theorem d22_32 : decode zc36 32 = .ok (.iconst 0, 1) := by decide +kernel
theorem d22_33 : decode zc36 33 = .ok (.aload_n 1, 1) := by decide +kernel
theorem d22_34 : decode zc36 34 = .ok (.iload_n 2, 1) := by decide +kernel
theorem d22_35 : decode zc36 35 = .ok (.aload_n 0, 1) := by decide +kernel
theorem d22_36 : decode zc36 36 = .ok (.getfield 9, 3) := by decide +kernel
theorem d22_39 : decode zc36 39 = .ok (.arraylength, 1) := by decide +kernel
theorem d22_40 : decode zc36 40 = .ok (.invokestatic 106, 3) := by decide +kernel
theorem ef22_01 (m : MethodId) (sa : Addr) (va : Addr) (cn : Int32) : entryFrame m #[(.ref sa), (.ref va), (.int cn), (.int 1)] 4 = mkF m 0 #[oa sa, oa va, oi cn, oi 1] [] := by first | (simp [entryFrame, mkF, argsToLocals, Value.category]; done) | rfl
def Q22_01 (Z : State) (sa : Addr) (va : Addr) (cn : Int32) (vb : Addr) (kb : ClassId) (nb : Int32) (wx : List Int32) (kv : ClassId) (us : List Int32) (cs : Int32) (fm : Value) (h0 : Heap) (n0 : Nat) (v : Option Value) (h : Heap) (L : List Loc) : Prop := v = none ∧ Fr n0 L ∧ Keep h0 h [va] ∧ Arv Z h va kv .byte (32 : Int32) (own_ub (us ++ wx)) (.int 0)
theorem rm22_01 (l : Launch) (Z : State) (a0 : Array Value) (hw : ∀ d ∈ tables_1, d.before a0 Z = true) (ws : List Jvm.Cond) (sa : Addr) (va : Addr) (cn : Int32) (vb : Addr) (kb : ClassId) (nb : Int32) (wx : List Int32) (kv : ClassId) (us : List Int32) (cs : Int32) (fm : Value) (h0 : Heap) (n0 : Nat) (Z0 : n0 ≤ h0.size) (F0 : Exa Z h0 sa oS) (F1 : Fld Z h0 sa oS "coder" "B" (.int 0)) (F2 : Fld Z h0 sa oS "value" "[B" (.ref vb)) (F3 : Arv Z h0 vb kb .byte nb (own_lb wx) (.int 0)) (Vx : Arv Z h0 va kv .byte (32 : Int32) (own_ub us) (.int 0)) (gx : n0 ≤ va) (nvv : vb ≠ va) (hcn : cn.toInt = us.length) (hnb : nb.toInt = wx.length) (hsm : us.length + wx.length ≤ 16) (hla : own_lat wx) (hchs : own_chs wx) (Cs : Sta Z Z.heap oS "COMPACT_STRINGS" "Z" (.int cs)) (hcs : ¬ (cs = (0 : Int32))) (Ox : Old Z n0 h0) (Fm : Sta Z Z.heap "jdk/internal/util/Preconditions" "SIOOBE_FORMATTER" "Ljava/util/function/BiFunction;" fm) (hfm : fm.isRef = true) (Ua : Sta Z Z.heap o6 "$assertionsDisabled" "Z" (.int 1)) (Uh : Sta Z Z.heap o6 "HI_BYTE_SHIFT" "I" (.int 0)) (Ul : Sta Z Z.heap o6 "LO_BYTE_SHIFT" "I" (.int 8)) :
    MetFree l oM36 (head1 (Jvm.Cond.code oM36 zc36 4 none :: ws) oR28) (fun a U => a = #[(.ref sa), (.ref va), (.int cn), (.int 1)] ∧ Z.Warmed39 U.vm ∧ U.heap = h0) (fun _ _ _ _ _ => True) (fun _ U o U' => ∃ v L, o = .returned v ∧ Q22_01 Z sa va cn vb kb nb wx kv us cs fm h0 n0 v U'.heap L ∧ FrameEnd U o U' L oR28.cells oR28.slots) := by
  refine MetFree.of_bodySF (plainFor_of_name pn3) hisR ?_
  intro p e s m args below meth c s₁ Bd hml0 hP hK
  obtain ⟨rfl, hZ, hh⟩ := hP
  have hx := Bd.exec
  have hby := Bd.bytes
  have hml : c.maxLocals = 4 := hml0
  have hown : s.vm.findClass oS = some m.cls := findClass_of_methodNamed Bd.named
  have X0 : Stand p l e oR28 s m #[(.ref sa), (.ref va), (.int cn), (.int 1)] below meth c s₁ [] 0 0 := Stand.of_body Bd
  have e0 : s₁.heap = h0 := by rw [← hh, Bd.state]; rfl
  have N0 := Fr.nil n0
  have pre0 := own_pre (p := p) (e := e) (below := below) (s₁ := s₁) (ef22_01 m sa va cn)
  obtain ⟨cq1, kq1, q1a, q1b, q1c⟩ := isOf hZ e0 F0
  obtain ⟨_, _, ⟨T1, L1, k1, n1⟩, -, X1, ⟨Lc1, hQ1, l1, y1, z1⟩, st1⟩ := X0.virtualBack hx (y := oM13) (z := oM13) hown (mvT hZ (ow hw 100 rfl)) (mvT hZ (ow hw 101 rfl)) (notFace_of_selects (args := #[]) (mvT hZ (ow hw 103 rfl))) (mvT hZ (ow hw 103 rfl)) (mvT hZ (ow hw 102 rfl)) (by decide) (backOf (W := 0) (rm18 l Z a0 hw [] sa (0 : Int32) cs h0 n0 Z0 F1 (by first | assumption | decide | omega) Cs hcs Ox) hZ (ow hw 104 rfl) (ow hw 3 rfl) (by decide) (by decide)) q1a q1c (g := (mkF m 1 #[oa sa, oa va, oi cn, oi 1] [(.ref sa)])) rfl (by rw [hml]; rfl) (Steps.refl _) (argsL := []) (rest := []) (lenOf pd11 rfl) rfl (Nat.le_of_eq rfl) (hb hby d22_1) (fun _ _ => ⟨rfl, e0, (by decide : 0 + 0 ≤ _), (by decide : 0 + 0 ≤ _)⟩)
  dsimp only [Pt.U, Pt.locs, Pt.cells, Pt.slots] at X1 l1 y1 z1 st1 hQ1
  subst l1 y1 z1
  obtain ⟨rfl, N1q, e1⟩ := hQ1
  have N1 := Fr.app N0 N1q
  obtain ⟨T2, X2, e2, st2⟩ := getF X1 hx hZ hown (host := "") (Or.inl (ow hw 23 rfl)) Via.refl e1 F2 (g := (mkF m 29 #[oa sa, oa va, oi cn, oi 1] [(.ref sa)])) rfl rfl (hb hby d22_29)
  obtain ⟨T3, X3, e3, st3⟩ := getF X2 hx hZ hown (host := "") (Or.inl (ow hw 23 rfl)) Via.refl e2 F2 (g := (mkF m 36 #[oa sa, oa va, oi cn, oi 1] [(.ref sa), (.int cn), (.ref va), (.int 0), (.ref vb)])) rfl rfl (hb hby d22_36)
  obtain ⟨c4, Arc4, -, Sc4, Mc4, -, -⟩ := id F3
  obtain ⟨_, _, ⟨T5, L5, k5, n5⟩, -, X5, ⟨Lc5, hQ5, l5, y5, z5⟩, st5⟩ := Jvm.LawKit.callS X3 hx (y := oM33) hown (mvT hZ (ow hw 253 rfl)) (mvT hZ (ow hw 236 rfl)) (mvT hZ (ow hw 8 rfl)) (mvT hZ (ow hw 237 rfl)) (by decide) (backOf (W := 0) (rm47 l Z a0 hw [] vb va cn nb kb nb wx kv (32 : Int32) (own_ub us) fm h0 n0 Z0 F3 Vx nvv gx Ox Ua Uh Ul Fm hfm hnb (by omega) (Int.le_refl _) (by rw [Int32.lt_iff_toInt_lt]; have e0 : (0 : Int32).toInt = 0 := (by decide); have e16 : (16 : Int32).toInt = 16 := (by decide); have e32 : (32 : Int32).toInt = 32 := (by decide); omega) (by rw [own_ubl]; simp only [own_tn]; omega) (by have e0 : (0 : Int32).toInt = 0 := (by decide); have e16 : (16 : Int32).toInt = 16 := (by decide); have e32 : (32 : Int32).toInt = 32 := (by decide); omega) hla hchs) hZ (ow hw 237 rfl) (ow hw 8 rfl) (by decide) (by decide)) (g := (mkF m 40 #[oa sa, oa va, oi cn, oi 1] [(.int nb), (.int cn), (.ref va), (.int 0), (.ref vb)])) rfl (by rw [hml]; rfl) (argsL := [(.ref vb), (.int 0), (.ref va), (.int cn), (.int nb)]) (rest := []) (lenOf pd27 rfl) rfl (Nat.le_of_eq rfl) (hb hby d22_40) (fun _ _ => ⟨rfl, e3, (by decide : 0 + 0 ≤ _), (by decide : 0 + 0 ≤ _)⟩)
  dsimp only [Pt.U, Pt.locs, Pt.cells, Pt.slots] at X5 l5 y5 z5 st5 hQ5
  subst l5 y5 z5
  obtain ⟨rfl, N5q, K5, f5_0⟩ := hQ5
  have N5 := Fr.app N1 N5q
  have Z6 : n0 ≤ T5.heap.size := Nat.le_trans Z0 K5.1
  have K7 : Keep h0 T5.heap [va] := (Keep.refl h0 [va]).trans K5 (allS (P := fun x => x ∈ _ ∨ _) (Or.inl (List.mem_of_getElem? (i := 0) rfl)) all0)
  obtain ⟨fsZ, hrZ, hrun, hended, hW, hsame⟩ := X5.leave (v := none) (fun _ => rfl)
  refine ⟨_, _, pre0 _ ?_, hrun, hended, _, _, rfl, ?_, ⟨_, rfl⟩, hW, hsame.mono (by decide) (by decide)⟩
  · show Steps _ _ _ (s₁.setTop (mkF m 0 #[oa sa, oa va, oi cn, oi 1] [])) _
    refine XS.aloadN X0.here hx rfl (hb hby d22_0) rfl rfl ?_
    refine st1.trans ?_
    refine XS.iloadN X1.here hx rfl (hb hby d22_4) rfl  ?_
    refine XS.icmpYes X1.here hx rfl (pc0 := 5) (pc' := 28) rfl (hb hby d22_5) rfl (feq (by decide)).2 (by decide) (by decide) ?_
    refine XS.aloadN X1.here hx rfl (hb hby d22_28) rfl rfl ?_
    refine st2 _ ?_
    refine XS.iconst X2.here hx rfl (hb hby d22_32) ?_
    refine XS.aloadN X2.here hx rfl (hb hby d22_33) rfl rfl ?_
    show Steps _ _ _ (T2.setTop (mkF m 34 #[oa sa, oa va, oi cn, oi 1] [(.ref va), (.int 0), (.ref vb)])) _
    refine XS.iloadN X2.here hx rfl (hb hby d22_34) rfl  ?_
    refine XS.aloadN X2.here hx rfl (hb hby d22_35) rfl rfl ?_
    refine st3 _ ?_
    show Steps _ _ _ (T3.setTop (mkF m 39 #[oa sa, oa va, oi cn, oi 1] [(.ref vb), (.int cn), (.ref va), (.int 0), (.ref vb)])) _
    refine X3.arraylength hx (by rw [e3]; exact Arc4.1) (State.isArrayOf_alike hZ.alike Arc4.2.1) (g := (mkF m 39 #[oa sa, oa va, oi cn, oi 1] [(.ref vb), (.int cn), (.ref va), (.int 0), (.ref vb)])) rfl rfl (hb hby d22_39) _ ?_
    rw [len_of Sc4 Mc4]
    show Steps _ _ _ (T3.setTop (mkF m 40 #[oa sa, oa va, oi cn, oi 1] [(.int nb), (.int cn), (.ref va), (.int 0), (.ref vb)])) _
    refine st5 _ ?_
    show Steps _ _ _ (T5.setTop (mkF m 43 #[oa sa, oa va, oi cn, oi 1] [])) _
    exact X5.returnOut hx Bd.returns (hb hby d22_43) hrZ
  · show Q22_01 Z sa va cn vb kb nb wx kv us cs fm h0 n0 _ T5.heap _
    exact ⟨rfl, N5, K7, (by rw [own_uba]; exact f5_0)⟩
theorem d20_0 : decode zc37 0 = .ok (.aload_n 0, 1) := by decide +kernel
theorem d20_1 : decode zc37 1 = .ok (.aload_n 2, 1) := by decide +kernel
theorem d20_2 : decode zc37 2 = .ok (.invokevirtual 397, 3) := by decide +kernel
theorem pd29 : parseMethodDescriptor "(Ljava/lang/String;)V" = some ⟨[(.object oS)], none⟩ := by decide +kernel
theorem d20_5 : decode zc37 5 = .ok (.aload_n 2, 1) := by decide +kernel
theorem d20_6 : decode zc37 6 = .ok (.aload_n 0, 1) := by decide +kernel
theorem d20_7 : decode zc37 7 = .ok (.getfield 15, 3) := by decide +kernel
theorem d20_10 : decode zc37 10 = .ok (.iload_n 1, 1) := by decide +kernel
theorem d20_11 : decode zc37 11 = .ok (.aload_n 0, 1) := by decide +kernel
theorem d20_12 : decode zc37 12 = .ok (.getfield 22, 3) := by decide +kernel
theorem d20_15 : decode zc37 15 = .ok (.invokevirtual 399, 3) := by decide +kernel
theorem pd30 : parseMethodDescriptor "([BIB)V" = some ⟨[(.array .byte), .int, .byte], none⟩ := by decide +kernel
theorem d20_18 : decode zc37 18 = .ok (.return_, 1) := by decide +kernel
theorem ef20_00 (m : MethodId) (b : Addr) (cn : Int32) (sa : Addr) : entryFrame m #[(.ref b), (.int cn), (.ref sa)] 3 = mkF m 0 #[oa b, oi cn, oa sa] [] := by first | (simp [entryFrame, mkF, argsToLocals, Value.category]; done) | rfl
def Q20_00 (Z : State) (b : Addr) (cn : Int32) (sa : Addr) (va : Addr) (kv : ClassId) (us : List Int32) (vb : Addr) (kb : ClassId) (nb : Int32) (wx : List Int32) (cs : Int32) (h0 : Heap) (n0 : Nat) (v : Option Value) (h : Heap) (L : List Loc) : Prop := v = none ∧ Fr n0 L ∧ Keep h0 h [va] ∧ Exa Z h b oB ∧ Fld Z h b oA "value" "[B" (.ref va) ∧ Fld Z h b oA "coder" "B" (.int 0) ∧ Fld Z h b oA "count" "I" (.int cn) ∧ Fld Z h b oA "maybeLatin1" "Z" (.int 0) ∧ Arv Z h va kv .byte (16 : Int32) (own_lb (us ++ wx)) (.int 0)
theorem rm20_00 (l : Launch) (Z : State) (a0 : Array Value) (hw : ∀ d ∈ tables_1, d.before a0 Z = true) (ws : List Jvm.Cond) (b : Addr) (cn : Int32) (sa : Addr) (va : Addr) (kv : ClassId) (us : List Int32) (vb : Addr) (kb : ClassId) (nb : Int32) (wx : List Int32) (cs : Int32) (h0 : Heap) (n0 : Nat) (Z0 : n0 ≤ h0.size) (F0 : Exa Z h0 b oB) (F1 : Fld Z h0 b oA "value" "[B" (.ref va)) (F2 : Fld Z h0 b oA "coder" "B" (.int 0)) (F3 : Fld Z h0 b oA "count" "I" (.int cn)) (F4 : Fld Z h0 b oA "maybeLatin1" "Z" (.int 0)) (F5 : Arv Z h0 va kv .byte (16 : Int32) (own_lb us) (.int 0)) (G0 : Exa Z h0 sa oS) (G1 : Fld Z h0 sa oS "coder" "B" (.int 0)) (G2 : Fld Z h0 sa oS "value" "[B" (.ref vb)) (G3 : Arv Z h0 vb kb .byte nb (own_lb wx) (.int 0)) (gx : n0 ≤ va) (nbv : b ≠ va) (hcn : cn.toInt = us.length) (hnb : nb.toInt = wx.length) (hsm : us.length + wx.length ≤ 16) (Cs : Sta Z Z.heap oS "COMPACT_STRINGS" "Z" (.int cs)) (hcs : ¬ (cs = (0 : Int32))) (Ox : Old Z n0 h0) :
    MetFree l oM37 (head1 (Jvm.Cond.code oM37 zc37 3 none :: ws) oR29) (fun a U => a = #[(.ref b), (.int cn), (.ref sa)] ∧ Z.Warmed39 U.vm ∧ U.heap = h0) (fun _ _ _ _ _ => True) (fun _ U o U' => ∃ v L, o = .returned v ∧ Q20_00 Z b cn sa va kv us vb kb nb wx cs h0 n0 v U'.heap L ∧ FrameEnd U o U' L oR29.cells oR29.slots) := by
  refine MetFree.of_bodySF (plainFor_of_name pn23) hisR ?_
  intro p e s m args below meth c s₁ Bd hml0 hP hK
  obtain ⟨rfl, hZ, hh⟩ := hP
  have hx := Bd.exec
  have hby := Bd.bytes
  have hml : c.maxLocals = 3 := hml0
  have hown : s.vm.findClass oA = some m.cls := findClass_of_methodNamed Bd.named
  have X0 : Stand p l e oR29 s m #[(.ref b), (.int cn), (.ref sa)] below meth c s₁ [] 0 0 := Stand.of_body Bd
  have e0 : s₁.heap = h0 := by rw [← hh, Bd.state]; rfl
  have N0 := Fr.nil n0
  have pre0 := own_pre (p := p) (e := e) (below := below) (s₁ := s₁) (ef20_00 m b cn sa)
  obtain ⟨cq1, q1, q1'⟩ := F0.cell
  obtain ⟨_, _, ⟨T1, L1, k1, n1⟩, -, X1, ⟨Lc1, hQ1, l1, y1, z1⟩, st1⟩ := X0.privateBack hx (y := oM35) hown (mvT hZ (ow hw 117 rfl)) (mvT hZ (ow hw 118 rfl)) (own_selN hZ (notFace_of_selects (args := #[]) (mvT hZ (ow hw 120 rfl))) (ow hw 119 rfl) (ow hw 118 rfl) (by decide)) (Cond.privateMethod_at (mvP hZ (ow hw 119 rfl) (args := #[]))) (mvT hZ (ow hw 121 rfl)) (by decide) (backOf (W := 0) (rm21_00 l Z a0 hw [] b sa cs h0 n0 Z0 F0 F2 G0 G1 Cs hcs Ox) hZ (ow hw 121 rfl) (ow hw 77 rfl) (by decide) (by decide)) (g := (mkF m 2 #[oa b, oi cn, oa sa] [(.ref sa), (.ref b)])) rfl (by rw [hml]; rfl) (Steps.refl _) (a := b) (by rw [e0]; exact q1) q1' (argsL := [(.ref sa)]) (rest := []) (lenOf pd29 rfl) rfl (Nat.le_of_eq rfl) (hb hby d20_2) (fun _ _ => ⟨rfl, e0, (by decide : 0 + 0 ≤ _), (by decide : 0 + 0 ≤ _)⟩)
  dsimp only [Pt.U, Pt.locs, Pt.cells, Pt.slots] at X1 l1 y1 z1 st1 hQ1
  subst l1 y1 z1
  obtain ⟨rfl, N1q, e1⟩ := hQ1
  have N1 := Fr.app N0 N1q
  obtain ⟨T2, X2, e2, st2⟩ := getF X1 hx hZ hown (host := "") (Or.inl (ow hw 81 rfl)) Via.refl e1 F1 (g := (mkF m 7 #[oa b, oi cn, oa sa] [(.ref b), (.ref sa)])) rfl rfl (hb hby d20_7)
  obtain ⟨T3, X3, e3, st3⟩ := getF X2 hx hZ hown (host := "") (Or.inl (ow hw 83 rfl)) Via.refl e2 F2 (g := (mkF m 12 #[oa b, oi cn, oa sa] [(.ref b), (.int cn), (.ref va), (.ref sa)])) rfl rfl (hb hby d20_12)
  obtain ⟨cq4, kq4, q4a, q4b, q4c⟩ := isOf hZ e3 G0
  obtain ⟨_, _, ⟨T4, L4, k4, n4⟩, -, X4, ⟨Lc4, hQ4, l4, y4, z4⟩, st4⟩ := X3.virtualBack hx (y := oM36) (z := oM36) hown (mvT hZ (ow hw 123 rfl)) (mvT hZ (ow hw 124 rfl)) (notFace_of_selects (args := #[]) (mvT hZ (ow hw 126 rfl))) (mvT hZ (ow hw 126 rfl)) (mvT hZ (ow hw 125 rfl)) (by decide) (backOf (W := 0) (rm22_00 l Z a0 hw [] sa va cn vb kb nb wx kv us cs h0 n0 Z0 G0 G1 G2 G3 F5 gx hcn hnb hsm Cs hcs Ox) hZ (ow hw 127 rfl) (ow hw 3 rfl) (by decide) (by decide)) q4a q4c (g := (mkF m 15 #[oa b, oi cn, oa sa] [(.int 0), (.int cn), (.ref va), (.ref sa)])) rfl (by rw [hml]; rfl) (Steps.refl _) (argsL := [(.ref va), (.int cn), (.int 0)]) (rest := []) (lenOf pd30 rfl) rfl (Nat.le_of_eq rfl) (hb hby d20_15) (fun _ _ => ⟨rfl, e3, (by decide : 0 + 0 ≤ _), (by decide : 0 + 0 ≤ _)⟩)
  dsimp only [Pt.U, Pt.locs, Pt.cells, Pt.slots] at X4 l4 y4 z4 st4 hQ4
  subst l4 y4 z4
  obtain ⟨rfl, N4q, K4, f4_0⟩ := hQ4
  have N4 := Fr.app N1 N4q
  have Z5 : n0 ≤ T4.heap.size := Nat.le_trans Z0 K4.1
  have K6 : Keep h0 T4.heap [va] := (Keep.refl h0 [va]).trans K4 (allS (P := fun x => x ∈ _ ∨ _) (Or.inl (List.mem_of_getElem? (i := 0) rfl)) all0)
  obtain ⟨fsZ, hrZ, hrun, hended, hW, hsame⟩ := X4.leave (v := none) (fun _ => rfl)
  have fa7 := (F0.keep K4)
  have fa8 := (F1.keep K4 (ninS nbv nin0))
  have fa9 := (F2.keep K4 (ninS nbv nin0))
  have fa10 := (F3.keep K4 (ninS nbv nin0))
  have fa11 := (F4.keep K4 (ninS nbv nin0))
  refine ⟨_, _, pre0 _ ?_, hrun, hended, _, _, rfl, ?_, ⟨_, rfl⟩, hW, hsame.mono (by decide) (by decide)⟩
  · show Steps _ _ _ (s₁.setTop (mkF m 0 #[oa b, oi cn, oa sa] [])) _
    refine XS.aloadN X0.here hx rfl (hb hby d20_0) rfl rfl ?_
    refine XS.aloadN X0.here hx rfl (hb hby d20_1) rfl rfl ?_
    refine st1.trans ?_
    refine XS.aloadN X1.here hx rfl (hb hby d20_5) rfl rfl ?_
    refine XS.aloadN X1.here hx rfl (hb hby d20_6) rfl rfl ?_
    refine st2 _ ?_
    refine XS.iloadN X2.here hx rfl (hb hby d20_10) rfl  ?_
    refine XS.aloadN X2.here hx rfl (hb hby d20_11) rfl rfl ?_
    show Steps _ _ _ (T2.setTop (mkF m 12 #[oa b, oi cn, oa sa] [(.ref b), (.int cn), (.ref va), (.ref sa)])) _
    refine st3 _ ?_
    refine st4.trans ?_
    show Steps _ _ _ (T4.setTop (mkF m 18 #[oa b, oi cn, oa sa] [])) _
    exact X4.returnOut hx Bd.returns (hb hby d20_18) hrZ
  · show Q20_00 Z b cn sa va kv us vb kb nb wx cs h0 n0 _ T4.heap _
    exact ⟨rfl, N4, K6, fa7, fa8, fa9, fa10, fa11, f4_0⟩
theorem ef20_11 (m : MethodId) (b : Addr) (cn : Int32) (sa : Addr) : entryFrame m #[(.ref b), (.int cn), (.ref sa)] 3 = mkF m 0 #[oa b, oi cn, oa sa] [] := by first | (simp [entryFrame, mkF, argsToLocals, Value.category]; done) | rfl
def Q20_11 (Z : State) (b : Addr) (cn : Int32) (sa : Addr) (va : Addr) (kv : ClassId) (us : List Int32) (vb : Addr) (kb : ClassId) (nb : Int32) (wx : List Int32) (cs : Int32) (h0 : Heap) (n0 : Nat) (v : Option Value) (h : Heap) (L : List Loc) : Prop := v = none ∧ Fr n0 L ∧ Keep h0 h [va] ∧ Exa Z h b oB ∧ Fld Z h b oA "value" "[B" (.ref va) ∧ Fld Z h b oA "coder" "B" (.int 1) ∧ Fld Z h b oA "count" "I" (.int cn) ∧ Fld Z h b oA "maybeLatin1" "Z" (.int 0) ∧ Arv Z h va kv .byte (32 : Int32) (own_ub (us ++ wx)) (.int 0)
theorem rm20_11 (l : Launch) (Z : State) (a0 : Array Value) (hw : ∀ d ∈ tables_1, d.before a0 Z = true) (ws : List Jvm.Cond) (b : Addr) (cn : Int32) (sa : Addr) (va : Addr) (kv : ClassId) (us : List Int32) (vb : Addr) (kb : ClassId) (nb : Int32) (wx : List Int32) (cs : Int32) (h0 : Heap) (n0 : Nat) (Z0 : n0 ≤ h0.size) (F0 : Exa Z h0 b oB) (F1 : Fld Z h0 b oA "value" "[B" (.ref va)) (F2 : Fld Z h0 b oA "coder" "B" (.int 1)) (F3 : Fld Z h0 b oA "count" "I" (.int cn)) (F4 : Fld Z h0 b oA "maybeLatin1" "Z" (.int 0)) (F5 : Arv Z h0 va kv .byte (32 : Int32) (own_ub us) (.int 0)) (G0 : Exa Z h0 sa oS) (G1 : Fld Z h0 sa oS "coder" "B" (.int 1)) (G2 : Fld Z h0 sa oS "value" "[B" (.ref vb)) (G3 : Arv Z h0 vb kb .byte nb (own_ub wx) (.int 0)) (gx : n0 ≤ va) (nbv : b ≠ va) (hcn : cn.toInt = us.length) (hnb : nb.toInt = 2 * wx.length) (hsm : us.length + wx.length ≤ 16) (Cs : Sta Z Z.heap oS "COMPACT_STRINGS" "Z" (.int cs)) (hcs : ¬ (cs = (0 : Int32))) (Ox : Old Z n0 h0) :
    MetFree l oM37 (head1 (Jvm.Cond.code oM37 zc37 3 none :: ws) oR29) (fun a U => a = #[(.ref b), (.int cn), (.ref sa)] ∧ Z.Warmed39 U.vm ∧ U.heap = h0) (fun _ _ _ _ _ => True) (fun _ U o U' => ∃ v L, o = .returned v ∧ Q20_11 Z b cn sa va kv us vb kb nb wx cs h0 n0 v U'.heap L ∧ FrameEnd U o U' L oR29.cells oR29.slots) := by
  refine MetFree.of_bodySF (plainFor_of_name pn23) hisR ?_
  intro p e s m args below meth c s₁ Bd hml0 hP hK
  obtain ⟨rfl, hZ, hh⟩ := hP
  have hx := Bd.exec
  have hby := Bd.bytes
  have hml : c.maxLocals = 3 := hml0
  have hown : s.vm.findClass oA = some m.cls := findClass_of_methodNamed Bd.named
  have X0 : Stand p l e oR29 s m #[(.ref b), (.int cn), (.ref sa)] below meth c s₁ [] 0 0 := Stand.of_body Bd
  have e0 : s₁.heap = h0 := by rw [← hh, Bd.state]; rfl
  have N0 := Fr.nil n0
  have pre0 := own_pre (p := p) (e := e) (below := below) (s₁ := s₁) (ef20_11 m b cn sa)
  obtain ⟨cq1, q1, q1'⟩ := F0.cell
  obtain ⟨_, _, ⟨T1, L1, k1, n1⟩, -, X1, ⟨Lc1, hQ1, l1, y1, z1⟩, st1⟩ := X0.privateBack hx (y := oM35) hown (mvT hZ (ow hw 117 rfl)) (mvT hZ (ow hw 118 rfl)) (own_selN hZ (notFace_of_selects (args := #[]) (mvT hZ (ow hw 120 rfl))) (ow hw 119 rfl) (ow hw 118 rfl) (by decide)) (Cond.privateMethod_at (mvP hZ (ow hw 119 rfl) (args := #[]))) (mvT hZ (ow hw 121 rfl)) (by decide) (backOf (W := 0) (rm21_11 l Z a0 hw [] b sa cs h0 n0 Z0 F0 F2 G0 G1 Cs hcs Ox) hZ (ow hw 121 rfl) (ow hw 77 rfl) (by decide) (by decide)) (g := (mkF m 2 #[oa b, oi cn, oa sa] [(.ref sa), (.ref b)])) rfl (by rw [hml]; rfl) (Steps.refl _) (a := b) (by rw [e0]; exact q1) q1' (argsL := [(.ref sa)]) (rest := []) (lenOf pd29 rfl) rfl (Nat.le_of_eq rfl) (hb hby d20_2) (fun _ _ => ⟨rfl, e0, (by decide : 0 + 0 ≤ _), (by decide : 0 + 0 ≤ _)⟩)
  dsimp only [Pt.U, Pt.locs, Pt.cells, Pt.slots] at X1 l1 y1 z1 st1 hQ1
  subst l1 y1 z1
  obtain ⟨rfl, N1q, e1⟩ := hQ1
  have N1 := Fr.app N0 N1q
  obtain ⟨T2, X2, e2, st2⟩ := getF X1 hx hZ hown (host := "") (Or.inl (ow hw 81 rfl)) Via.refl e1 F1 (g := (mkF m 7 #[oa b, oi cn, oa sa] [(.ref b), (.ref sa)])) rfl rfl (hb hby d20_7)
  obtain ⟨T3, X3, e3, st3⟩ := getF X2 hx hZ hown (host := "") (Or.inl (ow hw 83 rfl)) Via.refl e2 F2 (g := (mkF m 12 #[oa b, oi cn, oa sa] [(.ref b), (.int cn), (.ref va), (.ref sa)])) rfl rfl (hb hby d20_12)
  obtain ⟨cq4, kq4, q4a, q4b, q4c⟩ := isOf hZ e3 G0
  obtain ⟨_, _, ⟨T4, L4, k4, n4⟩, -, X4, ⟨Lc4, hQ4, l4, y4, z4⟩, st4⟩ := X3.virtualBack hx (y := oM36) (z := oM36) hown (mvT hZ (ow hw 123 rfl)) (mvT hZ (ow hw 124 rfl)) (notFace_of_selects (args := #[]) (mvT hZ (ow hw 126 rfl))) (mvT hZ (ow hw 126 rfl)) (mvT hZ (ow hw 125 rfl)) (by decide) (backOf (W := 0) (rm22_11 l Z a0 hw [] sa va cn vb kb nb wx kv us cs h0 n0 Z0 G0 G1 G2 G3 F5 gx hcn hnb hsm Cs hcs Ox) hZ (ow hw 127 rfl) (ow hw 3 rfl) (by decide) (by decide)) q4a q4c (g := (mkF m 15 #[oa b, oi cn, oa sa] [(.int 1), (.int cn), (.ref va), (.ref sa)])) rfl (by rw [hml]; rfl) (Steps.refl _) (argsL := [(.ref va), (.int cn), (.int 1)]) (rest := []) (lenOf pd30 rfl) rfl (Nat.le_of_eq rfl) (hb hby d20_15) (fun _ _ => ⟨rfl, e3, (by decide : 0 + 0 ≤ _), (by decide : 0 + 0 ≤ _)⟩)
  dsimp only [Pt.U, Pt.locs, Pt.cells, Pt.slots] at X4 l4 y4 z4 st4 hQ4
  subst l4 y4 z4
  obtain ⟨rfl, N4q, K4, f4_0⟩ := hQ4
  have N4 := Fr.app N1 N4q
  have Z5 : n0 ≤ T4.heap.size := Nat.le_trans Z0 K4.1
  have K6 : Keep h0 T4.heap [va] := (Keep.refl h0 [va]).trans K4 (allS (P := fun x => x ∈ _ ∨ _) (Or.inl (List.mem_of_getElem? (i := 0) rfl)) all0)
  obtain ⟨fsZ, hrZ, hrun, hended, hW, hsame⟩ := X4.leave (v := none) (fun _ => rfl)
  have fa7 := (F0.keep K4)
  have fa8 := (F1.keep K4 (ninS nbv nin0))
  have fa9 := (F2.keep K4 (ninS nbv nin0))
  have fa10 := (F3.keep K4 (ninS nbv nin0))
  have fa11 := (F4.keep K4 (ninS nbv nin0))
  refine ⟨_, _, pre0 _ ?_, hrun, hended, _, _, rfl, ?_, ⟨_, rfl⟩, hW, hsame.mono (by decide) (by decide)⟩
  · show Steps _ _ _ (s₁.setTop (mkF m 0 #[oa b, oi cn, oa sa] [])) _
    refine XS.aloadN X0.here hx rfl (hb hby d20_0) rfl rfl ?_
    refine XS.aloadN X0.here hx rfl (hb hby d20_1) rfl rfl ?_
    refine st1.trans ?_
    refine XS.aloadN X1.here hx rfl (hb hby d20_5) rfl rfl ?_
    refine XS.aloadN X1.here hx rfl (hb hby d20_6) rfl rfl ?_
    refine st2 _ ?_
    refine XS.iloadN X2.here hx rfl (hb hby d20_10) rfl  ?_
    refine XS.aloadN X2.here hx rfl (hb hby d20_11) rfl rfl ?_
    show Steps _ _ _ (T2.setTop (mkF m 12 #[oa b, oi cn, oa sa] [(.ref b), (.int cn), (.ref va), (.ref sa)])) _
    refine st3 _ ?_
    refine st4.trans ?_
    show Steps _ _ _ (T4.setTop (mkF m 18 #[oa b, oi cn, oa sa] [])) _
    exact X4.returnOut hx Bd.returns (hb hby d20_18) hrZ
  · show Q20_11 Z b cn sa va kv us vb kb nb wx cs h0 n0 _ T4.heap _
    exact ⟨rfl, N4, K6, fa7, fa8, fa9, fa10, fa11, f4_0⟩
theorem ef20_10 (m : MethodId) (b : Addr) (cn : Int32) (sa : Addr) : entryFrame m #[(.ref b), (.int cn), (.ref sa)] 3 = mkF m 0 #[oa b, oi cn, oa sa] [] := by first | (simp [entryFrame, mkF, argsToLocals, Value.category]; done) | rfl
def Q20_10 (Z : State) (b : Addr) (cn : Int32) (sa : Addr) (va : Addr) (kv : ClassId) (us : List Int32) (vb : Addr) (kb : ClassId) (nb : Int32) (wx : List Int32) (cs : Int32) (fm : Value) (h0 : Heap) (n0 : Nat) (v : Option Value) (h : Heap) (L : List Loc) : Prop := v = none ∧ Fr n0 L ∧ Keep h0 h [va] ∧ Exa Z h b oB ∧ Fld Z h b oA "value" "[B" (.ref va) ∧ Fld Z h b oA "coder" "B" (.int 1) ∧ Fld Z h b oA "count" "I" (.int cn) ∧ Fld Z h b oA "maybeLatin1" "Z" (.int 0) ∧ Arv Z h va kv .byte (32 : Int32) (own_ub (us ++ wx)) (.int 0)
theorem rm20_10 (l : Launch) (Z : State) (a0 : Array Value) (hw : ∀ d ∈ tables_1, d.before a0 Z = true) (ws : List Jvm.Cond) (b : Addr) (cn : Int32) (sa : Addr) (va : Addr) (kv : ClassId) (us : List Int32) (vb : Addr) (kb : ClassId) (nb : Int32) (wx : List Int32) (cs : Int32) (fm : Value) (h0 : Heap) (n0 : Nat) (Z0 : n0 ≤ h0.size) (F0 : Exa Z h0 b oB) (F1 : Fld Z h0 b oA "value" "[B" (.ref va)) (F2 : Fld Z h0 b oA "coder" "B" (.int 1)) (F3 : Fld Z h0 b oA "count" "I" (.int cn)) (F4 : Fld Z h0 b oA "maybeLatin1" "Z" (.int 0)) (F5 : Arv Z h0 va kv .byte (32 : Int32) (own_ub us) (.int 0)) (G0 : Exa Z h0 sa oS) (G1 : Fld Z h0 sa oS "coder" "B" (.int 0)) (G2 : Fld Z h0 sa oS "value" "[B" (.ref vb)) (G3 : Arv Z h0 vb kb .byte nb (own_lb wx) (.int 0)) (gx : n0 ≤ va) (nbv : b ≠ va) (hcn : cn.toInt = us.length) (hnb : nb.toInt = wx.length) (hsm : us.length + wx.length ≤ 16) (Cs : Sta Z Z.heap oS "COMPACT_STRINGS" "Z" (.int cs)) (hcs : ¬ (cs = (0 : Int32))) (Ox : Old Z n0 h0) (nvv : vb ≠ va) (hla : own_lat wx) (hchs : own_chs wx) (Fm : Sta Z Z.heap "jdk/internal/util/Preconditions" "SIOOBE_FORMATTER" "Ljava/util/function/BiFunction;" fm) (hfm : fm.isRef = true) (Ua : Sta Z Z.heap o6 "$assertionsDisabled" "Z" (.int 1)) (Uh : Sta Z Z.heap o6 "HI_BYTE_SHIFT" "I" (.int 0)) (Ul : Sta Z Z.heap o6 "LO_BYTE_SHIFT" "I" (.int 8)) :
    MetFree l oM37 (head1 (Jvm.Cond.code oM37 zc37 3 none :: ws) oR30) (fun a U => a = #[(.ref b), (.int cn), (.ref sa)] ∧ Z.Warmed39 U.vm ∧ U.heap = h0) (fun _ _ _ _ _ => True) (fun _ U o U' => ∃ v L, o = .returned v ∧ Q20_10 Z b cn sa va kv us vb kb nb wx cs fm h0 n0 v U'.heap L ∧ FrameEnd U o U' L oR30.cells oR30.slots) := by
  refine MetFree.of_bodySF (plainFor_of_name pn23) hisR ?_
  intro p e s m args below meth c s₁ Bd hml0 hP hK
  obtain ⟨rfl, hZ, hh⟩ := hP
  have hx := Bd.exec
  have hby := Bd.bytes
  have hml : c.maxLocals = 3 := hml0
  have hown : s.vm.findClass oA = some m.cls := findClass_of_methodNamed Bd.named
  have X0 : Stand p l e oR30 s m #[(.ref b), (.int cn), (.ref sa)] below meth c s₁ [] 0 0 := Stand.of_body Bd
  have e0 : s₁.heap = h0 := by rw [← hh, Bd.state]; rfl
  have N0 := Fr.nil n0
  have pre0 := own_pre (p := p) (e := e) (below := below) (s₁ := s₁) (ef20_10 m b cn sa)
  obtain ⟨cq1, q1, q1'⟩ := F0.cell
  obtain ⟨_, _, ⟨T1, L1, k1, n1⟩, -, X1, ⟨Lc1, hQ1, l1, y1, z1⟩, st1⟩ := X0.privateBack hx (y := oM35) hown (mvT hZ (ow hw 117 rfl)) (mvT hZ (ow hw 118 rfl)) (own_selN hZ (notFace_of_selects (args := #[]) (mvT hZ (ow hw 120 rfl))) (ow hw 119 rfl) (ow hw 118 rfl) (by decide)) (Cond.privateMethod_at (mvP hZ (ow hw 119 rfl) (args := #[]))) (mvT hZ (ow hw 121 rfl)) (by decide) (backOf (W := 0) (rm21_10 l Z a0 hw [] b sa cs h0 n0 Z0 F0 F2 G0 G1 Cs hcs Ox) hZ (ow hw 121 rfl) (ow hw 77 rfl) (by decide) (by decide)) (g := (mkF m 2 #[oa b, oi cn, oa sa] [(.ref sa), (.ref b)])) rfl (by rw [hml]; rfl) (Steps.refl _) (a := b) (by rw [e0]; exact q1) q1' (argsL := [(.ref sa)]) (rest := []) (lenOf pd29 rfl) rfl (Nat.le_of_eq rfl) (hb hby d20_2) (fun _ _ => ⟨rfl, e0, (by decide : 0 + 0 ≤ _), (by decide : 0 + 0 ≤ _)⟩)
  dsimp only [Pt.U, Pt.locs, Pt.cells, Pt.slots] at X1 l1 y1 z1 st1 hQ1
  subst l1 y1 z1
  obtain ⟨rfl, N1q, e1⟩ := hQ1
  have N1 := Fr.app N0 N1q
  obtain ⟨T2, X2, e2, st2⟩ := getF X1 hx hZ hown (host := "") (Or.inl (ow hw 81 rfl)) Via.refl e1 F1 (g := (mkF m 7 #[oa b, oi cn, oa sa] [(.ref b), (.ref sa)])) rfl rfl (hb hby d20_7)
  obtain ⟨T3, X3, e3, st3⟩ := getF X2 hx hZ hown (host := "") (Or.inl (ow hw 83 rfl)) Via.refl e2 F2 (g := (mkF m 12 #[oa b, oi cn, oa sa] [(.ref b), (.int cn), (.ref va), (.ref sa)])) rfl rfl (hb hby d20_12)
  obtain ⟨cq4, kq4, q4a, q4b, q4c⟩ := isOf hZ e3 G0
  obtain ⟨_, _, ⟨T4, L4, k4, n4⟩, -, X4, ⟨Lc4, hQ4, l4, y4, z4⟩, st4⟩ := X3.virtualBack hx (y := oM36) (z := oM36) hown (mvT hZ (ow hw 123 rfl)) (mvT hZ (ow hw 124 rfl)) (notFace_of_selects (args := #[]) (mvT hZ (ow hw 126 rfl))) (mvT hZ (ow hw 126 rfl)) (mvT hZ (ow hw 125 rfl)) (by decide) (backOf (W := 0) (rm22_01 l Z a0 hw [] sa va cn vb kb nb wx kv us cs fm h0 n0 Z0 G0 G1 G2 G3 F5 gx nvv hcn hnb hsm hla hchs Cs hcs Ox Fm hfm Ua Uh Ul) hZ (ow hw 127 rfl) (ow hw 3 rfl) (by decide) (by decide)) q4a q4c (g := (mkF m 15 #[oa b, oi cn, oa sa] [(.int 1), (.int cn), (.ref va), (.ref sa)])) rfl (by rw [hml]; rfl) (Steps.refl _) (argsL := [(.ref va), (.int cn), (.int 1)]) (rest := []) (lenOf pd30 rfl) rfl (Nat.le_of_eq rfl) (hb hby d20_15) (fun _ _ => ⟨rfl, e3, (by decide : 0 + 0 ≤ _), (by decide : 0 + 0 ≤ _)⟩)
  dsimp only [Pt.U, Pt.locs, Pt.cells, Pt.slots] at X4 l4 y4 z4 st4 hQ4
  subst l4 y4 z4
  obtain ⟨rfl, N4q, K4, f4_0⟩ := hQ4
  have N4 := Fr.app N1 N4q
  have Z5 : n0 ≤ T4.heap.size := Nat.le_trans Z0 K4.1
  have K6 : Keep h0 T4.heap [va] := (Keep.refl h0 [va]).trans K4 (allS (P := fun x => x ∈ _ ∨ _) (Or.inl (List.mem_of_getElem? (i := 0) rfl)) all0)
  obtain ⟨fsZ, hrZ, hrun, hended, hW, hsame⟩ := X4.leave (v := none) (fun _ => rfl)
  have fa7 := (F0.keep K4)
  have fa8 := (F1.keep K4 (ninS nbv nin0))
  have fa9 := (F2.keep K4 (ninS nbv nin0))
  have fa10 := (F3.keep K4 (ninS nbv nin0))
  have fa11 := (F4.keep K4 (ninS nbv nin0))
  refine ⟨_, _, pre0 _ ?_, hrun, hended, _, _, rfl, ?_, ⟨_, rfl⟩, hW, hsame.mono (by decide) (by decide)⟩
  · show Steps _ _ _ (s₁.setTop (mkF m 0 #[oa b, oi cn, oa sa] [])) _
    refine XS.aloadN X0.here hx rfl (hb hby d20_0) rfl rfl ?_
    refine XS.aloadN X0.here hx rfl (hb hby d20_1) rfl rfl ?_
    refine st1.trans ?_
    refine XS.aloadN X1.here hx rfl (hb hby d20_5) rfl rfl ?_
    refine XS.aloadN X1.here hx rfl (hb hby d20_6) rfl rfl ?_
    refine st2 _ ?_
    refine XS.iloadN X2.here hx rfl (hb hby d20_10) rfl  ?_
    refine XS.aloadN X2.here hx rfl (hb hby d20_11) rfl rfl ?_
    show Steps _ _ _ (T2.setTop (mkF m 12 #[oa b, oi cn, oa sa] [(.ref b), (.int cn), (.ref va), (.ref sa)])) _
    refine st3 _ ?_
    refine st4.trans ?_
    show Steps _ _ _ (T4.setTop (mkF m 18 #[oa b, oi cn, oa sa] [])) _
    exact X4.returnOut hx Bd.returns (hb hby d20_18) hrZ
  · show Q20_10 Z b cn sa va kv us vb kb nb wx cs fm h0 n0 _ T4.heap _
    exact ⟨rfl, N4, K6, fa7, fa8, fa9, fa10, fa11, f4_0⟩
theorem ef20_01 (m : MethodId) (b : Addr) (cn : Int32) (sa : Addr) : entryFrame m #[(.ref b), (.int cn), (.ref sa)] 3 = mkF m 0 #[oa b, oi cn, oa sa] [] := by first | (simp [entryFrame, mkF, argsToLocals, Value.category]; done) | rfl
def Q20_01 (Z : State) (b : Addr) (cn : Int32) (sa : Addr) (va : Addr) (kv : ClassId) (us : List Int32) (vb : Addr) (kb : ClassId) (nb : Int32) (wx : List Int32) (cs : Int32) (fm : Value) (h0 : Heap) (n0 : Nat) (v : Option Value) (h : Heap) (L : List Loc) : Prop := ∃ (va2 : Addr) (kv2 : ClassId), v = none ∧ Fr n0 L ∧ Keep h0 h [b] ∧ n0 ≤ va2 ∧ h0.size ≤ va2 ∧ Exa Z h b oB ∧ Fld Z h b oA "value" "[B" (.ref va2) ∧ Fld Z h b oA "coder" "B" (.int 1) ∧ Fld Z h b oA "count" "I" (.int cn) ∧ Fld Z h b oA "maybeLatin1" "Z" (.int 0) ∧ Arv Z h va2 kv2 .byte (32 : Int32) (own_ub (us ++ wx)) (.int 0)
theorem rm20_01 (l : Launch) (Z : State) (a0 : Array Value) (hw : ∀ d ∈ tables_1, d.before a0 Z = true) (ws : List Jvm.Cond) (b : Addr) (cn : Int32) (sa : Addr) (va : Addr) (kv : ClassId) (us : List Int32) (vb : Addr) (kb : ClassId) (nb : Int32) (wx : List Int32) (cs : Int32) (fm : Value) (h0 : Heap) (n0 : Nat) (Z0 : n0 ≤ h0.size) (F0 : Exa Z h0 b oB) (F1 : Fld Z h0 b oA "value" "[B" (.ref va)) (F2 : Fld Z h0 b oA "coder" "B" (.int 0)) (F3 : Fld Z h0 b oA "count" "I" (.int cn)) (F4 : Fld Z h0 b oA "maybeLatin1" "Z" (.int 0)) (F5 : Arv Z h0 va kv .byte (16 : Int32) (own_lb us) (.int 0)) (G0 : Exa Z h0 sa oS) (G1 : Fld Z h0 sa oS "coder" "B" (.int 1)) (G2 : Fld Z h0 sa oS "value" "[B" (.ref vb)) (G3 : Arv Z h0 vb kb .byte nb (own_ub wx) (.int 0)) (gb : n0 ≤ b) (nbv : b ≠ va) (nsb : sa ≠ b) (nvb : vb ≠ b) (hn : cn.toInt = us.length) (hn16 : cn.toInt ≤ 16) (hla : own_lat us) (hchs : own_chs us) (hnb : nb.toInt = 2 * wx.length) (hsm : us.length + wx.length ≤ 16) (Cs : Sta Z Z.heap oS "COMPACT_STRINGS" "Z" (.int cs)) (hcs : ¬ (cs = (0 : Int32))) (Ox : Old Z n0 h0) (Fm : Sta Z Z.heap "jdk/internal/util/Preconditions" "SIOOBE_FORMATTER" "Ljava/util/function/BiFunction;" fm) (hfm : fm.isRef = true) (Ua : Sta Z Z.heap o6 "$assertionsDisabled" "Z" (.int 1)) (Uh : Sta Z Z.heap o6 "HI_BYTE_SHIFT" "I" (.int 0)) (Ul : Sta Z Z.heap o6 "LO_BYTE_SHIFT" "I" (.int 8)) :
    MetFree l oM37 (head1 (Jvm.Cond.code oM37 zc37 3 none :: ws) oR31) (fun a U => a = #[(.ref b), (.int cn), (.ref sa)] ∧ Z.Warmed39 U.vm ∧ U.heap = h0) (fun _ _ _ _ _ => True) (fun _ U o U' => ∃ v L, o = .returned v ∧ Q20_01 Z b cn sa va kv us vb kb nb wx cs fm h0 n0 v U'.heap L ∧ FrameEnd U o U' L oR31.cells oR31.slots) := by
  refine MetFree.of_bodySF (plainFor_of_name pn23) hisR ?_
  intro p e s m args below meth c s₁ Bd hml0 hP hK
  obtain ⟨rfl, hZ, hh⟩ := hP
  have hx := Bd.exec
  have hby := Bd.bytes
  have hml : c.maxLocals = 3 := hml0
  have hown : s.vm.findClass oA = some m.cls := findClass_of_methodNamed Bd.named
  have X0 : Stand p l e oR31 s m #[(.ref b), (.int cn), (.ref sa)] below meth c s₁ [] 0 0 := Stand.of_body Bd
  have e0 : s₁.heap = h0 := by rw [← hh, Bd.state]; rfl
  have N0 := Fr.nil n0
  have pre0 := own_pre (p := p) (e := e) (below := below) (s₁ := s₁) (ef20_01 m b cn sa)
  obtain ⟨cq1, q1, q1'⟩ := F0.cell
  obtain ⟨_, _, ⟨T1, L1, k1, n1⟩, -, X1, ⟨Lc1, hQ1, l1, y1, z1⟩, st1⟩ := X0.privateBack hx (y := oM35) hown (mvT hZ (ow hw 117 rfl)) (mvT hZ (ow hw 118 rfl)) (own_selN hZ (notFace_of_selects (args := #[]) (mvT hZ (ow hw 120 rfl))) (ow hw 119 rfl) (ow hw 118 rfl) (by decide)) (Cond.privateMethod_at (mvP hZ (ow hw 119 rfl) (args := #[]))) (mvT hZ (ow hw 121 rfl)) (by decide) (backOf (W := 0) (rm21_01 l Z a0 hw [] b sa va kv cn us cs fm h0 n0 Z0 F0 F1 F2 F3 F4 F5 gb nbv G0 G1 Cs hcs Ox Fm hfm Ua Uh Ul hn hn16 hla hchs) hZ (ow hw 121 rfl) (ow hw 77 rfl) (by decide) (by decide)) (g := (mkF m 2 #[oa b, oi cn, oa sa] [(.ref sa), (.ref b)])) rfl (by rw [hml]; rfl) (Steps.refl _) (a := b) (by rw [e0]; exact q1) q1' (argsL := [(.ref sa)]) (rest := []) (lenOf pd29 rfl) rfl (Nat.le_of_eq rfl) (hb hby d20_2) (fun _ _ => ⟨rfl, e0, (by decide : 0 + 1 ≤ _), (by decide : 0 + 32 ≤ _)⟩)
  dsimp only [Pt.U, Pt.locs, Pt.cells, Pt.slots] at X1 l1 y1 z1 st1 hQ1
  subst l1 y1 z1
  obtain ⟨va2_2, kv2_3, rfl, N1q, K1, u1_0, u1_1, f1_0, f1_1, f1_2, f1_3, f1_4, f1_5⟩ := hQ1
  have N1 := Fr.app N0 N1q
  have Z4 : n0 ≤ T1.heap.size := Nat.le_trans Z0 K1.1
  have K5 : Keep h0 T1.heap [b] := (Keep.refl h0 [b]).trans K1 (allS (P := fun x => x ∈ _ ∨ _) (Or.inl (List.mem_of_getElem? (i := 0) rfl)) all0)
  have ne6 := own_nc F0.lt u1_1
  have ne7 := own_nc F5.lt u1_1
  have ne8 := own_nc G0.lt u1_1
  have ne9 := own_nc G3.lt u1_1
  have sz_va2_2 : h0.size ≤ va2_2 := Nat.le_trans (Keep.refl h0 [b]).1 u1_1
  obtain ⟨T10, X10, e10, st10⟩ := getF X1 hx hZ hown (host := "") (Or.inl (ow hw 81 rfl)) Via.refl rfl f1_1 (g := (mkF m 7 #[oa b, oi cn, oa sa] [(.ref b), (.ref sa)])) rfl rfl (hb hby d20_7)
  obtain ⟨T11, X11, e11, st11⟩ := getF X10 hx hZ hown (host := "") (Or.inl (ow hw 83 rfl)) Via.refl e10 f1_2 (g := (mkF m 12 #[oa b, oi cn, oa sa] [(.ref b), (.int cn), (.ref va2_2), (.ref sa)])) rfl rfl (hb hby d20_12)
  have fa12 := (G0.keep K1)
  have fa13 := (G1.keep K1 (ninS nsb nin0))
  have fa14 := (G2.keep K1 (ninS nsb nin0))
  have fa15 := (G3.keep K1 (ninS nvb nin0))
  have fa16 := (Ox.keep K1 (allS (P := fun x => n0 ≤ x) gb all0))
  obtain ⟨cq17, kq17, q17a, q17b, q17c⟩ := isOf hZ e11 fa12
  obtain ⟨_, _, ⟨T17, L17, k17, n17⟩, -, X17, ⟨Lc17, hQ17, l17, y17, z17⟩, st17⟩ := X11.virtualBack hx (y := oM36) (z := oM36) hown (mvT hZ (ow hw 123 rfl)) (mvT hZ (ow hw 124 rfl)) (notFace_of_selects (args := #[]) (mvT hZ (ow hw 126 rfl))) (mvT hZ (ow hw 126 rfl)) (mvT hZ (ow hw 125 rfl)) (by decide) (backOf (W := 0) (rm22_11 l Z a0 hw [] sa va2_2 cn vb kb nb wx kv2_3 us cs T1.heap n0 Z4 fa12 fa13 fa14 fa15 f1_5 u1_0 hn hnb hsm Cs hcs fa16) hZ (ow hw 127 rfl) (ow hw 3 rfl) (by decide) (by decide)) q17a q17c (g := (mkF m 15 #[oa b, oi cn, oa sa] [(.int 1), (.int cn), (.ref va2_2), (.ref sa)])) rfl (by rw [hml]; rfl) (Steps.refl _) (argsL := [(.ref va2_2), (.int cn), (.int 1)]) (rest := []) (lenOf pd30 rfl) rfl (Nat.le_of_eq rfl) (hb hby d20_15) (fun _ _ => ⟨rfl, e11, (by decide : 1 + 0 ≤ _), (by decide : 32 + 0 ≤ _)⟩)
  dsimp only [Pt.U, Pt.locs, Pt.cells, Pt.slots] at X17 l17 y17 z17 st17 hQ17
  subst l17 y17 z17
  obtain ⟨rfl, N17q, K17, f17_0⟩ := hQ17
  have N17 := Fr.app N1 N17q
  have Z18 : n0 ≤ T17.heap.size := Nat.le_trans Z4 K17.1
  have K19 : Keep h0 T17.heap [b] := K5.trans K17 (allS (P := fun x => x ∈ _ ∨ _) (Or.inr sz_va2_2) all0)
  obtain ⟨fsZ, hrZ, hrun, hended, hW, hsame⟩ := X17.leave (v := none) (fun _ => rfl)
  have fa20 := (f1_0.keep K17)
  have fa21 := (f1_1.keep K17 (ninS ne6 nin0))
  have fa22 := (f1_2.keep K17 (ninS ne6 nin0))
  have fa23 := (f1_3.keep K17 (ninS ne6 nin0))
  have fa24 := (f1_4.keep K17 (ninS ne6 nin0))
  refine ⟨_, _, pre0 _ ?_, hrun, hended, _, _, rfl, ?_, ⟨_, rfl⟩, hW, hsame.mono (by decide) (by decide)⟩
  · show Steps _ _ _ (s₁.setTop (mkF m 0 #[oa b, oi cn, oa sa] [])) _
    refine XS.aloadN X0.here hx rfl (hb hby d20_0) rfl rfl ?_
    refine XS.aloadN X0.here hx rfl (hb hby d20_1) rfl rfl ?_
    refine st1.trans ?_
    refine XS.aloadN X1.here hx rfl (hb hby d20_5) rfl rfl ?_
    refine XS.aloadN X1.here hx rfl (hb hby d20_6) rfl rfl ?_
    refine st10 _ ?_
    refine XS.iloadN X10.here hx rfl (hb hby d20_10) rfl  ?_
    refine XS.aloadN X10.here hx rfl (hb hby d20_11) rfl rfl ?_
    show Steps _ _ _ (T10.setTop (mkF m 12 #[oa b, oi cn, oa sa] [(.ref b), (.int cn), (.ref va2_2), (.ref sa)])) _
    refine st11 _ ?_
    refine st17.trans ?_
    show Steps _ _ _ (T17.setTop (mkF m 18 #[oa b, oi cn, oa sa] [])) _
    exact X17.returnOut hx Bd.returns (hb hby d20_18) hrZ
  · show Q20_01 Z b cn sa va kv us vb kb nb wx cs fm h0 n0 _ T17.heap _
    exact ⟨va2_2, kv2_3, rfl, N17, K19, u1_0, sz_va2_2, fa20, fa21, fa22, fa23, fa24, f17_0⟩
theorem d16_0 : decode zc38 0 = .ok (.aload_n 1, 1) := by decide +kernel
theorem d16_1 : decode zc38 1 = .ok (.ifnonnull 8, 3) := by decide +kernel
theorem d16_9 : decode zc38 9 = .ok (.aload_n 1, 1) := by decide +kernel
theorem d16_10 : decode zc38 10 = .ok (.invokevirtual 32, 3) := by decide +kernel
theorem pd31 : parseMethodDescriptor "()I" = some ⟨[], some .int⟩ := by decide +kernel
theorem d16_13 : decode zc38 13 = .ok (.istore_n 2, 1) := by decide +kernel
theorem d16_14 : decode zc38 14 = .ok (.aload_n 0, 1) := by decide +kernel
theorem d16_15 : decode zc38 15 = .ok (.aload_n 0, 1) := by decide +kernel
theorem d16_16 : decode zc38 16 = .ok (.getfield 79, 3) := by decide +kernel
theorem d16_19 : decode zc38 19 = .ok (.iload_n 2, 1) := by decide +kernel
theorem d16_20 : decode zc38 20 = .ok (.iadd, 1) := by decide +kernel
theorem d16_21 : decode zc38 21 = .ok (.invokevirtual 100, 3) := by decide +kernel
theorem d16_24 : decode zc38 24 = .ok (.aload_n 0, 1) := by decide +kernel
theorem d16_25 : decode zc38 25 = .ok (.aload_n 0, 1) := by decide +kernel
theorem d16_26 : decode zc38 26 = .ok (.getfield 79, 3) := by decide +kernel
theorem d16_29 : decode zc38 29 = .ok (.aload_n 1, 1) := by decide +kernel
theorem d16_30 : decode zc38 30 = .ok (.invokevirtual 208, 3) := by decide +kernel
theorem pd32 : parseMethodDescriptor "(ILjava/lang/String;)V" = some ⟨[.int, (.object oS)], none⟩ := by decide +kernel
theorem d16_33 : decode zc38 33 = .ok (.aload_n 0, 1) := by decide +kernel
theorem d16_34 : decode zc38 34 = .ok (.dup, 1) := by decide +kernel
theorem d16_35 : decode zc38 35 = .ok (.getfield 79, 3) := by decide +kernel
theorem d16_38 : decode zc38 38 = .ok (.iload_n 2, 1) := by decide +kernel
theorem d16_39 : decode zc38 39 = .ok (.iadd, 1) := by decide +kernel
theorem d16_40 : decode zc38 40 = .ok (.putfield 79, 3) := by decide +kernel
theorem d16_43 : decode zc38 43 = .ok (.aload_n 0, 1) := by decide +kernel
theorem d16_44 : decode zc38 44 = .ok (.areturn, 1) := by decide +kernel
theorem ef16 (m : MethodId) (b : Addr) (sa : Addr) : entryFrame m #[(.ref b), (.ref sa)] 3 = mkF m 0 #[oa b, oa sa, .unset] [] := by first | (simp [entryFrame, mkF, argsToLocals, Value.category]; done) | rfl
def Q16 (Z : State) (b : Addr) (sa : Addr) (va : Addr) (kv : ClassId) (bc : Int32) (nv : Int32) (xs : List Value) (cn : Int32) (vb : Addr) (kb : ClassId) (kc : Int32) (nb : Int32) (vs : List Value) (us : List Int32) (wx : List Int32) (cs : Int32) (fm : Value) (h0 : Heap) (n0 : Nat) (v : Option Value) (h : Heap) (L : List Loc) : Prop := ∃ (va2 : Addr) (kv2 : ClassId) (bc2 : Int32) (nv2 : Int32) (xs2 : List Value) (cn2 : Int32), v = some (.ref b) ∧ Fr n0 L ∧ Keep h0 h [b, va] ∧ n0 ≤ va2 ∧ b ≠ va2 ∧ (va2 = va ∨ h0.size ≤ va2) ∧ own_sbe (us ++ wx) bc2 nv2 xs2 ∧ cn2.toInt = (us ++ wx).length ∧ Exa Z h b oB ∧ Fld Z h b oA "value" "[B" (.ref va2) ∧ Fld Z h b oA "coder" "B" (.int bc2) ∧ Fld Z h b oA "count" "I" (.int cn2) ∧ Fld Z h b oA "maybeLatin1" "Z" (.int 0) ∧ Arv Z h va2 kv2 .byte nv2 xs2 (.int 0)
theorem rm16 (l : Launch) (Z : State) (a0 : Array Value) (hw : ∀ d ∈ tables_1, d.before a0 Z = true) (ws : List Jvm.Cond) (b : Addr) (sa : Addr) (va : Addr) (kv : ClassId) (bc : Int32) (nv : Int32) (xs : List Value) (cn : Int32) (vb : Addr) (kb : ClassId) (kc : Int32) (nb : Int32) (vs : List Value) (us : List Int32) (wx : List Int32) (cs : Int32) (fm : Value) (h0 : Heap) (n0 : Nat) (Z0 : n0 ≤ h0.size) (F0 : Exa Z h0 b oB) (F1 : Fld Z h0 b oA "value" "[B" (.ref va)) (F2 : Fld Z h0 b oA "coder" "B" (.int bc)) (F3 : Fld Z h0 b oA "count" "I" (.int cn)) (F4 : Fld Z h0 b oA "maybeLatin1" "Z" (.int 0)) (F5 : Arv Z h0 va kv .byte nv xs (.int 0)) (G0 : Exa Z h0 sa oS) (G1 : Fld Z h0 sa oS "coder" "B" (.int kc)) (G2 : Fld Z h0 sa oS "value" "[B" (.ref vb)) (G3 : Arv Z h0 vb kb .byte nb vs (.int 0)) (gb : n0 ≤ b) (gx : n0 ≤ va) (nbv : b ≠ va) (nsb : sa ≠ b) (nsv : sa ≠ va) (nvb : vb ≠ b) (nvv : vb ≠ va) (hsb : own_sbe us bc nv xs) (henc : own_enc wx kc nb vs) (hcn : cn.toInt = us.length) (hsm : us.length + wx.length ≤ 16) (Cs : Sta Z Z.heap oS "COMPACT_STRINGS" "Z" (.int cs)) (hcs : ¬ (cs = (0 : Int32))) (Ox : Old Z n0 h0) (Fm : Sta Z Z.heap "jdk/internal/util/Preconditions" "SIOOBE_FORMATTER" "Ljava/util/function/BiFunction;" fm) (hfm : fm.isRef = true) (Ua : Sta Z Z.heap o6 "$assertionsDisabled" "Z" (.int 1)) (Uh : Sta Z Z.heap o6 "HI_BYTE_SHIFT" "I" (.int 0)) (Ul : Sta Z Z.heap o6 "LO_BYTE_SHIFT" "I" (.int 8)) :
    MetFree l oM38 (head1 (Jvm.Cond.code oM38 zc38 3 (some (.object oA)) :: ws) oR32) (fun a U => a = #[(.ref b), (.ref sa)] ∧ Z.Warmed39 U.vm ∧ U.heap = h0) (fun _ _ _ _ _ => True) (fun _ U o U' => ∃ v L, o = .returned v ∧ Q16 Z b sa va kv bc nv xs cn vb kb kc nb vs us wx cs fm h0 n0 v U'.heap L ∧ FrameEnd U o U' L oR32.cells oR32.slots) := by
  refine MetFree.of_bodySF (plainFor_of_name pn23) hisR ?_
  intro p e s m args below meth c s₁ Bd hml0 hP hK
  obtain ⟨rfl, hZ, hh⟩ := hP
  have hx := Bd.exec
  have hby := Bd.bytes
  have hml : c.maxLocals = 3 := hml0
  have hown : s.vm.findClass oA = some m.cls := findClass_of_methodNamed Bd.named
  have X0 : Stand p l e oR32 s m #[(.ref b), (.ref sa)] below meth c s₁ [] 0 0 := Stand.of_body Bd
  have e0 : s₁.heap = h0 := by rw [← hh, Bd.state]; rfl
  have N0 := Fr.nil n0
  have pre0 := own_pre (p := p) (e := e) (below := below) (s₁ := s₁) (ef16 m b sa)
  obtain ⟨hcu, hlu, horu⟩ := hsb
  rcases horu with ⟨hlau, hbk, hnv, hxs⟩ | ⟨hlau, hbk, hnv, hxs⟩
  ·  -- builder 0
    have Bk : Fld Z h0 b oA "coder" "B" (.int 0) := by have q := F2; rw [hbk] at q; exact q
    have Bx : Arv Z h0 va kv .byte (16 : Int32) (own_lb us) (.int 0) := by have q := F5; rw [hnv, hxs] at q; exact q
    obtain ⟨hchs, hlen, hor⟩ := henc
    rcases hor with ⟨hla, hk, hnb, hvs⟩ | ⟨hla, hk, hnb, hvs⟩
    ·  -- coder 0
      have Fk : Fld Z h0 sa oS "coder" "B" (.int 0) := by rw [← hk]; exact G1
      have Vk : Arv Z h0 vb kb .byte nb (own_lb wx) (.int 0) := by rw [← hvs]; exact G3
      obtain ⟨cq1, kq1, q1a, q1b, q1c⟩ := isOf hZ e0 G0
      obtain ⟨_, _, ⟨T1, L1, k1, n1⟩, -, X1, ⟨Lc1, hQ1, l1, y1, z1⟩, st1⟩ := X0.virtualBack hx (y := oM14) (z := oM14) hown (mvT hZ (ow hw 95 rfl)) (mvT hZ (ow hw 96 rfl)) (notFace_of_selects (args := #[]) (mvT hZ (ow hw 98 rfl))) (mvT hZ (ow hw 98 rfl)) (mvT hZ (ow hw 97 rfl)) (by decide) (backOf (W := 0) (rm17 l Z a0 hw [] sa vb kb (0 : Int32) nb (own_lb wx) cs (nb >>> ((0 : Int32) &&& 31)) h0 n0 Z0 G0 Fk G2 Vk (by first | assumption | decide | omega) Cs hcs Ox rfl) hZ (ow hw 99 rfl) (ow hw 3 rfl) (by decide) (by decide)) q1a q1c (g := (mkF m 10 #[oa b, oa sa, .unset] [(.ref sa)])) rfl (by rw [hml]; rfl) (Steps.refl _) (argsL := []) (rest := []) (lenOf pd31 rfl) rfl (Nat.le_of_eq rfl) (hb hby d16_10) (fun _ _ => ⟨rfl, e0, (by decide : 0 + 0 ≤ _), (by decide : 0 + 0 ≤ _)⟩)
      dsimp only [Pt.U, Pt.locs, Pt.cells, Pt.slots] at X1 l1 y1 z1 st1 hQ1
      subst l1 y1 z1
      obtain ⟨rfl, N1q, e1⟩ := hQ1
      have N1 := Fr.app N0 N1q
      obtain ⟨T2, X2, e2, st2⟩ := getF X1 hx hZ hown (host := "") (Or.inl (ow hw 105 rfl)) Via.refl e1 F3 (g := (mkF m 16 #[oa b, oa sa, oi (nb >>> ((0 : Int32) &&& 31))] [(.ref b), (.ref b)])) rfl rfl (hb hby d16_16)
      obtain ⟨cq3, q3, q3'⟩ := F0.cell
      obtain ⟨_, _, ⟨T3, L3, k3, n3⟩, -, X3, ⟨Lc3, hQ3, l3, y3, z3⟩, st3⟩ := X2.privateBack hx (y := oM31) hown (mvT hZ (ow hw 107 rfl)) (mvT hZ (ow hw 108 rfl)) (own_selN hZ (notFace_of_selects (args := #[]) (mvT hZ (ow hw 110 rfl))) (ow hw 109 rfl) (ow hw 108 rfl) (by decide)) (Cond.privateMethod_at (mvP hZ (ow hw 109 rfl) (args := #[]))) (mvT hZ (ow hw 111 rfl)) (by decide) (backOf (W := 0) (rm19k0 l Z a0 hw [] b (cn + (nb >>> ((0 : Int32) &&& 31))) va kv (own_lb us) h0 n0 Z0 F1 Bk Bx (own_mc hcn (own_ln0 hnb) hsm).1) hZ (ow hw 111 rfl) (ow hw 77 rfl) (by decide) (by decide)) (g := (mkF m 21 #[oa b, oa sa, oi (nb >>> ((0 : Int32) &&& 31))] [(.int (cn + (nb >>> ((0 : Int32) &&& 31)))), (.ref b)])) rfl (by rw [hml]; rfl) (Steps.refl _) (a := b) (by rw [e2]; exact q3) q3' (argsL := [(.int (cn + (nb >>> ((0 : Int32) &&& 31))))]) (rest := []) (lenOf pd25 rfl) rfl (Nat.le_of_eq rfl) (hb hby d16_21) (fun _ _ => ⟨rfl, e2, (by decide : 0 + 0 ≤ _), (by decide : 0 + 0 ≤ _)⟩)
      dsimp only [Pt.U, Pt.locs, Pt.cells, Pt.slots] at X3 l3 y3 z3 st3 hQ3
      subst l3 y3 z3
      obtain ⟨rfl, N3q, e3⟩ := hQ3
      have N3 := Fr.app N1 N3q
      obtain ⟨T4, X4, e4, st4⟩ := getF X3 hx hZ hown (host := "") (Or.inl (ow hw 105 rfl)) Via.refl e3 F3 (g := (mkF m 26 #[oa b, oa sa, oi (nb >>> ((0 : Int32) &&& 31))] [(.ref b), (.ref b)])) rfl rfl (hb hby d16_26)
      obtain ⟨cq5, q5, q5'⟩ := F0.cell
      obtain ⟨_, _, ⟨T5, L5, k5, n5⟩, -, X5, ⟨Lc5, hQ5, l5, y5, z5⟩, st5⟩ := X4.privateBack hx (y := oM37) hown (mvT hZ (ow hw 112 rfl)) (mvT hZ (ow hw 113 rfl)) (own_selN hZ (notFace_of_selects (args := #[]) (mvT hZ (ow hw 115 rfl))) (ow hw 114 rfl) (ow hw 113 rfl) (by decide)) (Cond.privateMethod_at (mvP hZ (ow hw 114 rfl) (args := #[]))) (mvT hZ (ow hw 116 rfl)) (by decide) (backOf (W := 0) (rm20_00 l Z a0 hw [] b cn sa va kv us vb kb nb wx cs h0 n0 Z0 F0 F1 Bk F3 F4 Bx G0 Fk G2 Vk gx nbv hcn (by first | assumption | decide | omega) hsm Cs hcs Ox) hZ (ow hw 116 rfl) (ow hw 77 rfl) (by decide) (by decide)) (g := (mkF m 30 #[oa b, oa sa, oi (nb >>> ((0 : Int32) &&& 31))] [(.ref sa), (.int cn), (.ref b)])) rfl (by rw [hml]; rfl) (Steps.refl _) (a := b) (by rw [e4]; exact q5) q5' (argsL := [(.int cn), (.ref sa)]) (rest := []) (lenOf pd32 rfl) rfl (Nat.le_of_eq rfl) (hb hby d16_30) (fun _ _ => ⟨rfl, e4, (by decide : 0 + 0 ≤ _), (by decide : 0 + 0 ≤ _)⟩)
      dsimp only [Pt.U, Pt.locs, Pt.cells, Pt.slots] at X5 l5 y5 z5 st5 hQ5
      subst l5 y5 z5
      obtain ⟨rfl, N5q, K5, f5_0, f5_1, f5_2, f5_3, f5_4, f5_5⟩ := hQ5
      have N5 := Fr.app N3 N5q
      have Z6 : n0 ≤ T5.heap.size := Nat.le_trans Z0 K5.1
      have K7 : Keep h0 T5.heap [b, va] := (Keep.refl h0 [b, va]).trans K5 (allS (P := fun x => x ∈ _ ∨ _) (Or.inl (List.mem_of_getElem? (i := 1) rfl)) all0)
      obtain ⟨T8, X8, e8, st8⟩ := getF X5 hx hZ hown (host := "") (Or.inl (ow hw 105 rfl)) Via.refl rfl f5_3 (g := (mkF m 35 #[oa b, oa sa, oi (nb >>> ((0 : Int32) &&& 31))] [(.ref b), (.ref b)])) rfl rfl (hb hby d16_35)
      obtain ⟨T9, h9, X9, e9, W9, st9⟩ := putF X8 hx hZ hown (host := "") (Or.inl (ow hw 105 rfl)) Via.refl e8 f5_3 f5_0 (Or.inl (ow hw 106 rfl)) (ow hw 68 rfl) (ty := .int) (by decide) rfl rfl (g := (mkF m 40 #[oa b, oa sa, oi (nb >>> ((0 : Int32) &&& 31))] [(.int (cn + (nb >>> ((0 : Int32) &&& 31)))), (.ref b)])) rfl rfl (hb hby d16_40)
      have fw9 : Fld Z h9 b oA "count" "I" (.int (cn + (nb >>> ((0 : Int32) &&& 31)))) := f5_3.same W9
      have Z10 : n0 ≤ h9.size := Nat.le_trans Z6 (Nat.le_of_eq W9.size.symm)
      have K11 : Keep h0 h9 [b, va] := K7.wr W9 (Or.inl (List.mem_of_getElem? (i := 0) rfl))
      have N9 := Fr.snoc X9 N5 gb
      obtain ⟨fsZ, hrZ, hrun, hended, hW, hsame⟩ := X9.leave (v := some (.ref b)) (fun h => by rw [Bd.returns] at h; cases h)
      have hqs : own_sbe (us ++ wx) (0 : Int32) (16 : Int32) (own_lb (us ++ wx)) := own_sbL hcu hchs hsm hlau hla
      have hqc : (cn + (nb >>> ((0 : Int32) &&& 31))).toInt = (us ++ wx).length := (own_mc hcn (own_ln0 hnb) hsm).2
      have fa12 := (f5_0.wr W9)
      have fa13 := (f5_1.other W9 (Or.inr (slot_ne (Or.inl (ow hw 82 rfl)) (Or.inl (ow hw 106 rfl)) (by decide) (t := (.array .byte)) (t' := .int) (by decide) (by decide))))
      have fa14 := (f5_2.other W9 (Or.inr (slot_ne (Or.inl (ow hw 84 rfl)) (Or.inl (ow hw 106 rfl)) (by decide) (t := .byte) (t' := .int) (by decide) (by decide))))
      have fa15 := (f5_4.other W9 (Or.inr (slot_ne (Or.inl (ow hw 255 rfl)) (Or.inl (ow hw 106 rfl)) (by decide) (t := .boolean) (t' := .int) (by decide) (by decide))))
      have fa16 := (f5_5.other W9 (Ne.symm nbv))
      refine ⟨_, _, pre0 _ ?_, hrun, hended, _, _, rfl, ?_, ⟨_, rfl⟩, hW, hsame.mono (by decide) (by decide)⟩
      · show Steps _ _ _ (s₁.setTop (mkF m 0 #[oa b, oa sa, .unset] [])) _
        refine XS.aloadN X0.here hx rfl (hb hby d16_0) rfl rfl ?_
        refine XS.ifnonnullYes X0.here hx rfl (pc0 := 1) (pc' := 9) rfl (hb hby d16_1) rfl (by decide) (by decide) ?_
        refine XS.aloadN X0.here hx rfl (hb hby d16_9) rfl rfl ?_
        refine st1.trans ?_
        refine XS.istoreN X1.here hx rfl (hb hby d16_13) rfl (l' := #[oa b, oa sa, oi (nb >>> ((0 : Int32) &&& 31))]) rfl ?_
        refine XS.aloadN X1.here hx rfl (hb hby d16_14) rfl rfl ?_
        refine XS.aloadN X1.here hx rfl (hb hby d16_15) rfl rfl ?_
        refine st2 _ ?_
        show Steps _ _ _ (T2.setTop (mkF m 19 #[oa b, oa sa, oi (nb >>> ((0 : Int32) &&& 31))] [(.int cn), (.ref b)])) _
        refine XS.iloadN X2.here hx rfl (hb hby d16_19) rfl  ?_
        refine XS.iadd X2.here hx rfl (hb hby d16_20) rfl ?_
        refine st3.trans ?_
        refine XS.aloadN X3.here hx rfl (hb hby d16_24) rfl rfl ?_
        refine XS.aloadN X3.here hx rfl (hb hby d16_25) rfl rfl ?_
        refine st4 _ ?_
        refine XS.aloadN X4.here hx rfl (hb hby d16_29) rfl rfl ?_
        refine st5.trans ?_
        show Steps _ _ _ (T5.setTop (mkF m 33 #[oa b, oa sa, oi (nb >>> ((0 : Int32) &&& 31))] [])) _
        refine XS.aloadN X5.here hx rfl (hb hby d16_33) rfl rfl ?_
        refine XS.dup X5.here hx rfl (hb hby d16_34) rfl rfl ?_
        refine st8 _ ?_
        refine XS.iloadN X8.here hx rfl (hb hby d16_38) rfl  ?_
        refine XS.iadd X8.here hx rfl (hb hby d16_39) rfl ?_
        refine st9 _ ?_
        refine XS.aloadN X9.here hx rfl (hb hby d16_43) rfl rfl ?_
        show Steps _ _ _ (T9.setTop (mkF m 44 #[oa b, oa sa, oi (nb >>> ((0 : Int32) &&& 31))] [(.ref b)])) _
        jvm_step X9.here [X9.here.top, hx, (hb hby d16_44), X9.method', Bd.returns, Value.isRef, FieldType.isReference]
        first | (intro acts; rw [hrZ _ acts rfl rfl rfl]) | rw [hrZ _ _ rfl rfl rfl]
        exact Steps.refl _
      · show Q16 Z b sa va kv bc nv xs cn vb kb kc nb vs us wx cs fm h0 n0 _ T9.heap _
        rw [e9]
        exact ⟨va, kv, (0 : Int32), (16 : Int32), (own_lb (us ++ wx)), (cn + (nb >>> ((0 : Int32) &&& 31))), rfl, N9, K11, gx, nbv, (by first | assumption | exact own_b01 _ | decide | omega | exact Or.inl rfl | exact Or.inr (by assumption)), (by first | assumption | exact own_b01 _ | decide | omega | exact Or.inl rfl | exact Or.inr (by assumption)), (by first | assumption | exact own_b01 _ | decide | omega | exact Or.inl rfl | exact Or.inr (by assumption)), fa12, fa13, fa14, fw9, fa15, fa16⟩
    ·  -- coder 1
      have Fk : Fld Z h0 sa oS "coder" "B" (.int 1) := by rw [← hk]; exact G1
      have Vk : Arv Z h0 vb kb .byte nb (own_ub wx) (.int 0) := by rw [← hvs]; exact G3
      obtain ⟨cq17, kq17, q17a, q17b, q17c⟩ := isOf hZ e0 G0
      obtain ⟨_, _, ⟨T17, L17, k17, n17⟩, -, X17, ⟨Lc17, hQ17, l17, y17, z17⟩, st17⟩ := X0.virtualBack hx (y := oM14) (z := oM14) hown (mvT hZ (ow hw 95 rfl)) (mvT hZ (ow hw 96 rfl)) (notFace_of_selects (args := #[]) (mvT hZ (ow hw 98 rfl))) (mvT hZ (ow hw 98 rfl)) (mvT hZ (ow hw 97 rfl)) (by decide) (backOf (W := 0) (rm17 l Z a0 hw [] sa vb kb (1 : Int32) nb (own_ub wx) cs (nb >>> ((1 : Int32) &&& 31)) h0 n0 Z0 G0 Fk G2 Vk (by first | assumption | decide | omega) Cs hcs Ox rfl) hZ (ow hw 99 rfl) (ow hw 3 rfl) (by decide) (by decide)) q17a q17c (g := (mkF m 10 #[oa b, oa sa, .unset] [(.ref sa)])) rfl (by rw [hml]; rfl) (Steps.refl _) (argsL := []) (rest := []) (lenOf pd31 rfl) rfl (Nat.le_of_eq rfl) (hb hby d16_10) (fun _ _ => ⟨rfl, e0, (by decide : 0 + 0 ≤ _), (by decide : 0 + 0 ≤ _)⟩)
      dsimp only [Pt.U, Pt.locs, Pt.cells, Pt.slots] at X17 l17 y17 z17 st17 hQ17
      subst l17 y17 z17
      obtain ⟨rfl, N17q, e17⟩ := hQ17
      have N17 := Fr.app N0 N17q
      obtain ⟨T18, X18, e18, st18⟩ := getF X17 hx hZ hown (host := "") (Or.inl (ow hw 105 rfl)) Via.refl e17 F3 (g := (mkF m 16 #[oa b, oa sa, oi (nb >>> ((1 : Int32) &&& 31))] [(.ref b), (.ref b)])) rfl rfl (hb hby d16_16)
      obtain ⟨cq19, q19, q19'⟩ := F0.cell
      obtain ⟨_, _, ⟨T19, L19, k19, n19⟩, -, X19, ⟨Lc19, hQ19, l19, y19, z19⟩, st19⟩ := X18.privateBack hx (y := oM31) hown (mvT hZ (ow hw 107 rfl)) (mvT hZ (ow hw 108 rfl)) (own_selN hZ (notFace_of_selects (args := #[]) (mvT hZ (ow hw 110 rfl))) (ow hw 109 rfl) (ow hw 108 rfl) (by decide)) (Cond.privateMethod_at (mvP hZ (ow hw 109 rfl) (args := #[]))) (mvT hZ (ow hw 111 rfl)) (by decide) (backOf (W := 0) (rm19k0 l Z a0 hw [] b (cn + (nb >>> ((1 : Int32) &&& 31))) va kv (own_lb us) h0 n0 Z0 F1 Bk Bx (own_mc hcn (own_ln1 hnb) hsm).1) hZ (ow hw 111 rfl) (ow hw 77 rfl) (by decide) (by decide)) (g := (mkF m 21 #[oa b, oa sa, oi (nb >>> ((1 : Int32) &&& 31))] [(.int (cn + (nb >>> ((1 : Int32) &&& 31)))), (.ref b)])) rfl (by rw [hml]; rfl) (Steps.refl _) (a := b) (by rw [e18]; exact q19) q19' (argsL := [(.int (cn + (nb >>> ((1 : Int32) &&& 31))))]) (rest := []) (lenOf pd25 rfl) rfl (Nat.le_of_eq rfl) (hb hby d16_21) (fun _ _ => ⟨rfl, e18, (by decide : 0 + 0 ≤ _), (by decide : 0 + 0 ≤ _)⟩)
      dsimp only [Pt.U, Pt.locs, Pt.cells, Pt.slots] at X19 l19 y19 z19 st19 hQ19
      subst l19 y19 z19
      obtain ⟨rfl, N19q, e19⟩ := hQ19
      have N19 := Fr.app N17 N19q
      obtain ⟨T20, X20, e20, st20⟩ := getF X19 hx hZ hown (host := "") (Or.inl (ow hw 105 rfl)) Via.refl e19 F3 (g := (mkF m 26 #[oa b, oa sa, oi (nb >>> ((1 : Int32) &&& 31))] [(.ref b), (.ref b)])) rfl rfl (hb hby d16_26)
      obtain ⟨cq21, q21, q21'⟩ := F0.cell
      obtain ⟨_, _, ⟨T21, L21, k21, n21⟩, -, X21, ⟨Lc21, hQ21, l21, y21, z21⟩, st21⟩ := X20.privateBack hx (y := oM37) hown (mvT hZ (ow hw 112 rfl)) (mvT hZ (ow hw 113 rfl)) (own_selN hZ (notFace_of_selects (args := #[]) (mvT hZ (ow hw 115 rfl))) (ow hw 114 rfl) (ow hw 113 rfl) (by decide)) (Cond.privateMethod_at (mvP hZ (ow hw 114 rfl) (args := #[]))) (mvT hZ (ow hw 116 rfl)) (by decide) (backOf (W := 0) (rm20_01 l Z a0 hw [] b cn sa va kv us vb kb nb wx cs fm h0 n0 Z0 F0 F1 Bk F3 F4 Bx G0 Fk G2 Vk gb nbv nsb nvb hcn (by first | assumption | decide | omega) (by first | assumption | decide | omega) (by first | assumption | decide | omega) (by first | assumption | decide | omega) hsm Cs hcs Ox Fm hfm Ua Uh Ul) hZ (ow hw 116 rfl) (ow hw 77 rfl) (by decide) (by decide)) (g := (mkF m 30 #[oa b, oa sa, oi (nb >>> ((1 : Int32) &&& 31))] [(.ref sa), (.int cn), (.ref b)])) rfl (by rw [hml]; rfl) (Steps.refl _) (a := b) (by rw [e20]; exact q21) q21' (argsL := [(.int cn), (.ref sa)]) (rest := []) (lenOf pd32 rfl) rfl (Nat.le_of_eq rfl) (hb hby d16_30) (fun _ _ => ⟨rfl, e20, (by decide : 0 + 1 ≤ _), (by decide : 0 + 32 ≤ _)⟩)
      dsimp only [Pt.U, Pt.locs, Pt.cells, Pt.slots] at X21 l21 y21 z21 st21 hQ21
      subst l21 y21 z21
      obtain ⟨va2_22, kv2_23, rfl, N21q, K21, u21_0, u21_1, f21_0, f21_1, f21_2, f21_3, f21_4, f21_5⟩ := hQ21
      have N21 := Fr.app N19 N21q
      have Z24 : n0 ≤ T21.heap.size := Nat.le_trans Z0 K21.1
      have K25 : Keep h0 T21.heap [b, va] := (Keep.refl h0 [b, va]).trans K21 (allS (P := fun x => x ∈ _ ∨ _) (Or.inl (List.mem_of_getElem? (i := 0) rfl)) all0)
      have ne26 := own_nc F0.lt u21_1
      have ne27 := own_nc Bx.lt u21_1
      have ne28 := own_nc G0.lt u21_1
      have ne29 := own_nc Vk.lt u21_1
      have sz_va2_22 : h0.size ≤ va2_22 := Nat.le_trans (Keep.refl h0 [b, va]).1 u21_1
      obtain ⟨T30, X30, e30, st30⟩ := getF X21 hx hZ hown (host := "") (Or.inl (ow hw 105 rfl)) Via.refl rfl f21_3 (g := (mkF m 35 #[oa b, oa sa, oi (nb >>> ((1 : Int32) &&& 31))] [(.ref b), (.ref b)])) rfl rfl (hb hby d16_35)
      obtain ⟨T31, h31, X31, e31, W31, st31⟩ := putF X30 hx hZ hown (host := "") (Or.inl (ow hw 105 rfl)) Via.refl e30 f21_3 f21_0 (Or.inl (ow hw 106 rfl)) (ow hw 68 rfl) (ty := .int) (by decide) rfl rfl (g := (mkF m 40 #[oa b, oa sa, oi (nb >>> ((1 : Int32) &&& 31))] [(.int (cn + (nb >>> ((1 : Int32) &&& 31)))), (.ref b)])) rfl rfl (hb hby d16_40)
      have fw31 : Fld Z h31 b oA "count" "I" (.int (cn + (nb >>> ((1 : Int32) &&& 31)))) := f21_3.same W31
      have Z32 : n0 ≤ h31.size := Nat.le_trans Z24 (Nat.le_of_eq W31.size.symm)
      have K33 : Keep h0 h31 [b, va] := K25.wr W31 (Or.inl (List.mem_of_getElem? (i := 0) rfl))
      have N31 := Fr.snoc X31 N21 gb
      obtain ⟨fsZ, hrZ, hrun, hended, hW, hsame⟩ := X31.leave (v := some (.ref b)) (fun h => by rw [Bd.returns] at h; cases h)
      have hqs : own_sbe (us ++ wx) (1 : Int32) (32 : Int32) (own_ub (us ++ wx)) := own_sbU hcu hchs hsm (Or.inr hla)
      have hqc : (cn + (nb >>> ((1 : Int32) &&& 31))).toInt = (us ++ wx).length := (own_mc hcn (own_ln1 hnb) hsm).2
      have fa34 := (f21_0.wr W31)
      have fa35 := (f21_1.other W31 (Or.inr (slot_ne (Or.inl (ow hw 82 rfl)) (Or.inl (ow hw 106 rfl)) (by decide) (t := (.array .byte)) (t' := .int) (by decide) (by decide))))
      have fa36 := (f21_2.other W31 (Or.inr (slot_ne (Or.inl (ow hw 84 rfl)) (Or.inl (ow hw 106 rfl)) (by decide) (t := .byte) (t' := .int) (by decide) (by decide))))
      have fa37 := (f21_4.other W31 (Or.inr (slot_ne (Or.inl (ow hw 255 rfl)) (Or.inl (ow hw 106 rfl)) (by decide) (t := .boolean) (t' := .int) (by decide) (by decide))))
      have fa38 := (f21_5.other W31 (Ne.symm ne26))
      refine ⟨_, _, pre0 _ ?_, hrun, hended, _, _, rfl, ?_, ⟨_, rfl⟩, hW, hsame.mono (by decide) (by decide)⟩
      · show Steps _ _ _ (s₁.setTop (mkF m 0 #[oa b, oa sa, .unset] [])) _
        refine XS.aloadN X0.here hx rfl (hb hby d16_0) rfl rfl ?_
        refine XS.ifnonnullYes X0.here hx rfl (pc0 := 1) (pc' := 9) rfl (hb hby d16_1) rfl (by decide) (by decide) ?_
        refine XS.aloadN X0.here hx rfl (hb hby d16_9) rfl rfl ?_
        refine st17.trans ?_
        refine XS.istoreN X17.here hx rfl (hb hby d16_13) rfl (l' := #[oa b, oa sa, oi (nb >>> ((1 : Int32) &&& 31))]) rfl ?_
        refine XS.aloadN X17.here hx rfl (hb hby d16_14) rfl rfl ?_
        refine XS.aloadN X17.here hx rfl (hb hby d16_15) rfl rfl ?_
        refine st18 _ ?_
        show Steps _ _ _ (T18.setTop (mkF m 19 #[oa b, oa sa, oi (nb >>> ((1 : Int32) &&& 31))] [(.int cn), (.ref b)])) _
        refine XS.iloadN X18.here hx rfl (hb hby d16_19) rfl  ?_
        refine XS.iadd X18.here hx rfl (hb hby d16_20) rfl ?_
        refine st19.trans ?_
        refine XS.aloadN X19.here hx rfl (hb hby d16_24) rfl rfl ?_
        refine XS.aloadN X19.here hx rfl (hb hby d16_25) rfl rfl ?_
        refine st20 _ ?_
        refine XS.aloadN X20.here hx rfl (hb hby d16_29) rfl rfl ?_
        refine st21.trans ?_
        show Steps _ _ _ (T21.setTop (mkF m 33 #[oa b, oa sa, oi (nb >>> ((1 : Int32) &&& 31))] [])) _
        refine XS.aloadN X21.here hx rfl (hb hby d16_33) rfl rfl ?_
        refine XS.dup X21.here hx rfl (hb hby d16_34) rfl rfl ?_
        refine st30 _ ?_
        refine XS.iloadN X30.here hx rfl (hb hby d16_38) rfl  ?_
        refine XS.iadd X30.here hx rfl (hb hby d16_39) rfl ?_
        refine st31 _ ?_
        refine XS.aloadN X31.here hx rfl (hb hby d16_43) rfl rfl ?_
        show Steps _ _ _ (T31.setTop (mkF m 44 #[oa b, oa sa, oi (nb >>> ((1 : Int32) &&& 31))] [(.ref b)])) _
        jvm_step X31.here [X31.here.top, hx, (hb hby d16_44), X31.method', Bd.returns, Value.isRef, FieldType.isReference]
        first | (intro acts; rw [hrZ _ acts rfl rfl rfl]) | rw [hrZ _ _ rfl rfl rfl]
        exact Steps.refl _
      · show Q16 Z b sa va kv bc nv xs cn vb kb kc nb vs us wx cs fm h0 n0 _ T31.heap _
        rw [e31]
        exact ⟨va2_22, kv2_23, (1 : Int32), (32 : Int32), (own_ub (us ++ wx)), (cn + (nb >>> ((1 : Int32) &&& 31))), rfl, N31, K33, u21_0, ne26, (by first | assumption | exact own_b01 _ | decide | omega | exact Or.inl rfl | exact Or.inr (by assumption)), (by first | assumption | exact own_b01 _ | decide | omega | exact Or.inl rfl | exact Or.inr (by assumption)), (by first | assumption | exact own_b01 _ | decide | omega | exact Or.inl rfl | exact Or.inr (by assumption)), fa34, fa35, fa36, fw31, fa37, fa38⟩
  ·  -- builder 1
    have Bk : Fld Z h0 b oA "coder" "B" (.int 1) := by have q := F2; rw [hbk] at q; exact q
    have Bx : Arv Z h0 va kv .byte (32 : Int32) (own_ub us) (.int 0) := by have q := F5; rw [hnv, hxs] at q; exact q
    obtain ⟨hchs, hlen, hor⟩ := henc
    rcases hor with ⟨hla, hk, hnb, hvs⟩ | ⟨hla, hk, hnb, hvs⟩
    ·  -- coder 0
      have Fk : Fld Z h0 sa oS "coder" "B" (.int 0) := by rw [← hk]; exact G1
      have Vk : Arv Z h0 vb kb .byte nb (own_lb wx) (.int 0) := by rw [← hvs]; exact G3
      obtain ⟨cq39, kq39, q39a, q39b, q39c⟩ := isOf hZ e0 G0
      obtain ⟨_, _, ⟨T39, L39, k39, n39⟩, -, X39, ⟨Lc39, hQ39, l39, y39, z39⟩, st39⟩ := X0.virtualBack hx (y := oM14) (z := oM14) hown (mvT hZ (ow hw 95 rfl)) (mvT hZ (ow hw 96 rfl)) (notFace_of_selects (args := #[]) (mvT hZ (ow hw 98 rfl))) (mvT hZ (ow hw 98 rfl)) (mvT hZ (ow hw 97 rfl)) (by decide) (backOf (W := 0) (rm17 l Z a0 hw [] sa vb kb (0 : Int32) nb (own_lb wx) cs (nb >>> ((0 : Int32) &&& 31)) h0 n0 Z0 G0 Fk G2 Vk (by first | assumption | decide | omega) Cs hcs Ox rfl) hZ (ow hw 99 rfl) (ow hw 3 rfl) (by decide) (by decide)) q39a q39c (g := (mkF m 10 #[oa b, oa sa, .unset] [(.ref sa)])) rfl (by rw [hml]; rfl) (Steps.refl _) (argsL := []) (rest := []) (lenOf pd31 rfl) rfl (Nat.le_of_eq rfl) (hb hby d16_10) (fun _ _ => ⟨rfl, e0, (by decide : 0 + 0 ≤ _), (by decide : 0 + 0 ≤ _)⟩)
      dsimp only [Pt.U, Pt.locs, Pt.cells, Pt.slots] at X39 l39 y39 z39 st39 hQ39
      subst l39 y39 z39
      obtain ⟨rfl, N39q, e39⟩ := hQ39
      have N39 := Fr.app N0 N39q
      obtain ⟨T40, X40, e40, st40⟩ := getF X39 hx hZ hown (host := "") (Or.inl (ow hw 105 rfl)) Via.refl e39 F3 (g := (mkF m 16 #[oa b, oa sa, oi (nb >>> ((0 : Int32) &&& 31))] [(.ref b), (.ref b)])) rfl rfl (hb hby d16_16)
      obtain ⟨cq41, q41, q41'⟩ := F0.cell
      obtain ⟨_, _, ⟨T41, L41, k41, n41⟩, -, X41, ⟨Lc41, hQ41, l41, y41, z41⟩, st41⟩ := X40.privateBack hx (y := oM31) hown (mvT hZ (ow hw 107 rfl)) (mvT hZ (ow hw 108 rfl)) (own_selN hZ (notFace_of_selects (args := #[]) (mvT hZ (ow hw 110 rfl))) (ow hw 109 rfl) (ow hw 108 rfl) (by decide)) (Cond.privateMethod_at (mvP hZ (ow hw 109 rfl) (args := #[]))) (mvT hZ (ow hw 111 rfl)) (by decide) (backOf (W := 0) (rm19k1 l Z a0 hw [] b (cn + (nb >>> ((0 : Int32) &&& 31))) va kv (own_ub us) h0 n0 Z0 F1 Bk Bx (own_mc hcn (own_ln0 hnb) hsm).1) hZ (ow hw 111 rfl) (ow hw 77 rfl) (by decide) (by decide)) (g := (mkF m 21 #[oa b, oa sa, oi (nb >>> ((0 : Int32) &&& 31))] [(.int (cn + (nb >>> ((0 : Int32) &&& 31)))), (.ref b)])) rfl (by rw [hml]; rfl) (Steps.refl _) (a := b) (by rw [e40]; exact q41) q41' (argsL := [(.int (cn + (nb >>> ((0 : Int32) &&& 31))))]) (rest := []) (lenOf pd25 rfl) rfl (Nat.le_of_eq rfl) (hb hby d16_21) (fun _ _ => ⟨rfl, e40, (by decide : 0 + 0 ≤ _), (by decide : 0 + 0 ≤ _)⟩)
      dsimp only [Pt.U, Pt.locs, Pt.cells, Pt.slots] at X41 l41 y41 z41 st41 hQ41
      subst l41 y41 z41
      obtain ⟨rfl, N41q, e41⟩ := hQ41
      have N41 := Fr.app N39 N41q
      obtain ⟨T42, X42, e42, st42⟩ := getF X41 hx hZ hown (host := "") (Or.inl (ow hw 105 rfl)) Via.refl e41 F3 (g := (mkF m 26 #[oa b, oa sa, oi (nb >>> ((0 : Int32) &&& 31))] [(.ref b), (.ref b)])) rfl rfl (hb hby d16_26)
      obtain ⟨cq43, q43, q43'⟩ := F0.cell
      obtain ⟨_, _, ⟨T43, L43, k43, n43⟩, -, X43, ⟨Lc43, hQ43, l43, y43, z43⟩, st43⟩ := X42.privateBack hx (y := oM37) hown (mvT hZ (ow hw 112 rfl)) (mvT hZ (ow hw 113 rfl)) (own_selN hZ (notFace_of_selects (args := #[]) (mvT hZ (ow hw 115 rfl))) (ow hw 114 rfl) (ow hw 113 rfl) (by decide)) (Cond.privateMethod_at (mvP hZ (ow hw 114 rfl) (args := #[]))) (mvT hZ (ow hw 116 rfl)) (by decide) (backOf (W := 0) (rm20_10 l Z a0 hw [] b cn sa va kv us vb kb nb wx cs fm h0 n0 Z0 F0 F1 Bk F3 F4 Bx G0 Fk G2 Vk gx nbv hcn (by first | assumption | decide | omega) hsm Cs hcs Ox nvv (by first | assumption | decide | omega) (by first | assumption | decide | omega) Fm hfm Ua Uh Ul) hZ (ow hw 116 rfl) (ow hw 77 rfl) (by decide) (by decide)) (g := (mkF m 30 #[oa b, oa sa, oi (nb >>> ((0 : Int32) &&& 31))] [(.ref sa), (.int cn), (.ref b)])) rfl (by rw [hml]; rfl) (Steps.refl _) (a := b) (by rw [e42]; exact q43) q43' (argsL := [(.int cn), (.ref sa)]) (rest := []) (lenOf pd32 rfl) rfl (Nat.le_of_eq rfl) (hb hby d16_30) (fun _ _ => ⟨rfl, e42, (by decide : 0 + 0 ≤ _), (by decide : 0 + 0 ≤ _)⟩)
      dsimp only [Pt.U, Pt.locs, Pt.cells, Pt.slots] at X43 l43 y43 z43 st43 hQ43
      subst l43 y43 z43
      obtain ⟨rfl, N43q, K43, f43_0, f43_1, f43_2, f43_3, f43_4, f43_5⟩ := hQ43
      have N43 := Fr.app N41 N43q
      have Z44 : n0 ≤ T43.heap.size := Nat.le_trans Z0 K43.1
      have K45 : Keep h0 T43.heap [b, va] := (Keep.refl h0 [b, va]).trans K43 (allS (P := fun x => x ∈ _ ∨ _) (Or.inl (List.mem_of_getElem? (i := 1) rfl)) all0)
      obtain ⟨T46, X46, e46, st46⟩ := getF X43 hx hZ hown (host := "") (Or.inl (ow hw 105 rfl)) Via.refl rfl f43_3 (g := (mkF m 35 #[oa b, oa sa, oi (nb >>> ((0 : Int32) &&& 31))] [(.ref b), (.ref b)])) rfl rfl (hb hby d16_35)
      obtain ⟨T47, h47, X47, e47, W47, st47⟩ := putF X46 hx hZ hown (host := "") (Or.inl (ow hw 105 rfl)) Via.refl e46 f43_3 f43_0 (Or.inl (ow hw 106 rfl)) (ow hw 68 rfl) (ty := .int) (by decide) rfl rfl (g := (mkF m 40 #[oa b, oa sa, oi (nb >>> ((0 : Int32) &&& 31))] [(.int (cn + (nb >>> ((0 : Int32) &&& 31)))), (.ref b)])) rfl rfl (hb hby d16_40)
      have fw47 : Fld Z h47 b oA "count" "I" (.int (cn + (nb >>> ((0 : Int32) &&& 31)))) := f43_3.same W47
      have Z48 : n0 ≤ h47.size := Nat.le_trans Z44 (Nat.le_of_eq W47.size.symm)
      have K49 : Keep h0 h47 [b, va] := K45.wr W47 (Or.inl (List.mem_of_getElem? (i := 0) rfl))
      have N47 := Fr.snoc X47 N43 gb
      obtain ⟨fsZ, hrZ, hrun, hended, hW, hsame⟩ := X47.leave (v := some (.ref b)) (fun h => by rw [Bd.returns] at h; cases h)
      have hqs : own_sbe (us ++ wx) (1 : Int32) (32 : Int32) (own_ub (us ++ wx)) := own_sbU hcu hchs hsm (Or.inl hlau)
      have hqc : (cn + (nb >>> ((0 : Int32) &&& 31))).toInt = (us ++ wx).length := (own_mc hcn (own_ln0 hnb) hsm).2
      have fa50 := (f43_0.wr W47)
      have fa51 := (f43_1.other W47 (Or.inr (slot_ne (Or.inl (ow hw 82 rfl)) (Or.inl (ow hw 106 rfl)) (by decide) (t := (.array .byte)) (t' := .int) (by decide) (by decide))))
      have fa52 := (f43_2.other W47 (Or.inr (slot_ne (Or.inl (ow hw 84 rfl)) (Or.inl (ow hw 106 rfl)) (by decide) (t := .byte) (t' := .int) (by decide) (by decide))))
      have fa53 := (f43_4.other W47 (Or.inr (slot_ne (Or.inl (ow hw 255 rfl)) (Or.inl (ow hw 106 rfl)) (by decide) (t := .boolean) (t' := .int) (by decide) (by decide))))
      have fa54 := (f43_5.other W47 (Ne.symm nbv))
      refine ⟨_, _, pre0 _ ?_, hrun, hended, _, _, rfl, ?_, ⟨_, rfl⟩, hW, hsame.mono (by decide) (by decide)⟩
      · show Steps _ _ _ (s₁.setTop (mkF m 0 #[oa b, oa sa, .unset] [])) _
        refine XS.aloadN X0.here hx rfl (hb hby d16_0) rfl rfl ?_
        refine XS.ifnonnullYes X0.here hx rfl (pc0 := 1) (pc' := 9) rfl (hb hby d16_1) rfl (by decide) (by decide) ?_
        refine XS.aloadN X0.here hx rfl (hb hby d16_9) rfl rfl ?_
        refine st39.trans ?_
        refine XS.istoreN X39.here hx rfl (hb hby d16_13) rfl (l' := #[oa b, oa sa, oi (nb >>> ((0 : Int32) &&& 31))]) rfl ?_
        refine XS.aloadN X39.here hx rfl (hb hby d16_14) rfl rfl ?_
        refine XS.aloadN X39.here hx rfl (hb hby d16_15) rfl rfl ?_
        refine st40 _ ?_
        show Steps _ _ _ (T40.setTop (mkF m 19 #[oa b, oa sa, oi (nb >>> ((0 : Int32) &&& 31))] [(.int cn), (.ref b)])) _
        refine XS.iloadN X40.here hx rfl (hb hby d16_19) rfl  ?_
        refine XS.iadd X40.here hx rfl (hb hby d16_20) rfl ?_
        refine st41.trans ?_
        refine XS.aloadN X41.here hx rfl (hb hby d16_24) rfl rfl ?_
        refine XS.aloadN X41.here hx rfl (hb hby d16_25) rfl rfl ?_
        refine st42 _ ?_
        refine XS.aloadN X42.here hx rfl (hb hby d16_29) rfl rfl ?_
        refine st43.trans ?_
        show Steps _ _ _ (T43.setTop (mkF m 33 #[oa b, oa sa, oi (nb >>> ((0 : Int32) &&& 31))] [])) _
        refine XS.aloadN X43.here hx rfl (hb hby d16_33) rfl rfl ?_
        refine XS.dup X43.here hx rfl (hb hby d16_34) rfl rfl ?_
        refine st46 _ ?_
        refine XS.iloadN X46.here hx rfl (hb hby d16_38) rfl  ?_
        refine XS.iadd X46.here hx rfl (hb hby d16_39) rfl ?_
        refine st47 _ ?_
        refine XS.aloadN X47.here hx rfl (hb hby d16_43) rfl rfl ?_
        show Steps _ _ _ (T47.setTop (mkF m 44 #[oa b, oa sa, oi (nb >>> ((0 : Int32) &&& 31))] [(.ref b)])) _
        jvm_step X47.here [X47.here.top, hx, (hb hby d16_44), X47.method', Bd.returns, Value.isRef, FieldType.isReference]
        first | (intro acts; rw [hrZ _ acts rfl rfl rfl]) | rw [hrZ _ _ rfl rfl rfl]
        exact Steps.refl _
      · show Q16 Z b sa va kv bc nv xs cn vb kb kc nb vs us wx cs fm h0 n0 _ T47.heap _
        rw [e47]
        exact ⟨va, kv, (1 : Int32), (32 : Int32), (own_ub (us ++ wx)), (cn + (nb >>> ((0 : Int32) &&& 31))), rfl, N47, K49, gx, nbv, (by first | assumption | exact own_b01 _ | decide | omega | exact Or.inl rfl | exact Or.inr (by assumption)), (by first | assumption | exact own_b01 _ | decide | omega | exact Or.inl rfl | exact Or.inr (by assumption)), (by first | assumption | exact own_b01 _ | decide | omega | exact Or.inl rfl | exact Or.inr (by assumption)), fa50, fa51, fa52, fw47, fa53, fa54⟩
    ·  -- coder 1
      have Fk : Fld Z h0 sa oS "coder" "B" (.int 1) := by rw [← hk]; exact G1
      have Vk : Arv Z h0 vb kb .byte nb (own_ub wx) (.int 0) := by rw [← hvs]; exact G3
      obtain ⟨cq55, kq55, q55a, q55b, q55c⟩ := isOf hZ e0 G0
      obtain ⟨_, _, ⟨T55, L55, k55, n55⟩, -, X55, ⟨Lc55, hQ55, l55, y55, z55⟩, st55⟩ := X0.virtualBack hx (y := oM14) (z := oM14) hown (mvT hZ (ow hw 95 rfl)) (mvT hZ (ow hw 96 rfl)) (notFace_of_selects (args := #[]) (mvT hZ (ow hw 98 rfl))) (mvT hZ (ow hw 98 rfl)) (mvT hZ (ow hw 97 rfl)) (by decide) (backOf (W := 0) (rm17 l Z a0 hw [] sa vb kb (1 : Int32) nb (own_ub wx) cs (nb >>> ((1 : Int32) &&& 31)) h0 n0 Z0 G0 Fk G2 Vk (by first | assumption | decide | omega) Cs hcs Ox rfl) hZ (ow hw 99 rfl) (ow hw 3 rfl) (by decide) (by decide)) q55a q55c (g := (mkF m 10 #[oa b, oa sa, .unset] [(.ref sa)])) rfl (by rw [hml]; rfl) (Steps.refl _) (argsL := []) (rest := []) (lenOf pd31 rfl) rfl (Nat.le_of_eq rfl) (hb hby d16_10) (fun _ _ => ⟨rfl, e0, (by decide : 0 + 0 ≤ _), (by decide : 0 + 0 ≤ _)⟩)
      dsimp only [Pt.U, Pt.locs, Pt.cells, Pt.slots] at X55 l55 y55 z55 st55 hQ55
      subst l55 y55 z55
      obtain ⟨rfl, N55q, e55⟩ := hQ55
      have N55 := Fr.app N0 N55q
      obtain ⟨T56, X56, e56, st56⟩ := getF X55 hx hZ hown (host := "") (Or.inl (ow hw 105 rfl)) Via.refl e55 F3 (g := (mkF m 16 #[oa b, oa sa, oi (nb >>> ((1 : Int32) &&& 31))] [(.ref b), (.ref b)])) rfl rfl (hb hby d16_16)
      obtain ⟨cq57, q57, q57'⟩ := F0.cell
      obtain ⟨_, _, ⟨T57, L57, k57, n57⟩, -, X57, ⟨Lc57, hQ57, l57, y57, z57⟩, st57⟩ := X56.privateBack hx (y := oM31) hown (mvT hZ (ow hw 107 rfl)) (mvT hZ (ow hw 108 rfl)) (own_selN hZ (notFace_of_selects (args := #[]) (mvT hZ (ow hw 110 rfl))) (ow hw 109 rfl) (ow hw 108 rfl) (by decide)) (Cond.privateMethod_at (mvP hZ (ow hw 109 rfl) (args := #[]))) (mvT hZ (ow hw 111 rfl)) (by decide) (backOf (W := 0) (rm19k1 l Z a0 hw [] b (cn + (nb >>> ((1 : Int32) &&& 31))) va kv (own_ub us) h0 n0 Z0 F1 Bk Bx (own_mc hcn (own_ln1 hnb) hsm).1) hZ (ow hw 111 rfl) (ow hw 77 rfl) (by decide) (by decide)) (g := (mkF m 21 #[oa b, oa sa, oi (nb >>> ((1 : Int32) &&& 31))] [(.int (cn + (nb >>> ((1 : Int32) &&& 31)))), (.ref b)])) rfl (by rw [hml]; rfl) (Steps.refl _) (a := b) (by rw [e56]; exact q57) q57' (argsL := [(.int (cn + (nb >>> ((1 : Int32) &&& 31))))]) (rest := []) (lenOf pd25 rfl) rfl (Nat.le_of_eq rfl) (hb hby d16_21) (fun _ _ => ⟨rfl, e56, (by decide : 0 + 0 ≤ _), (by decide : 0 + 0 ≤ _)⟩)
      dsimp only [Pt.U, Pt.locs, Pt.cells, Pt.slots] at X57 l57 y57 z57 st57 hQ57
      subst l57 y57 z57
      obtain ⟨rfl, N57q, e57⟩ := hQ57
      have N57 := Fr.app N55 N57q
      obtain ⟨T58, X58, e58, st58⟩ := getF X57 hx hZ hown (host := "") (Or.inl (ow hw 105 rfl)) Via.refl e57 F3 (g := (mkF m 26 #[oa b, oa sa, oi (nb >>> ((1 : Int32) &&& 31))] [(.ref b), (.ref b)])) rfl rfl (hb hby d16_26)
      obtain ⟨cq59, q59, q59'⟩ := F0.cell
      obtain ⟨_, _, ⟨T59, L59, k59, n59⟩, -, X59, ⟨Lc59, hQ59, l59, y59, z59⟩, st59⟩ := X58.privateBack hx (y := oM37) hown (mvT hZ (ow hw 112 rfl)) (mvT hZ (ow hw 113 rfl)) (own_selN hZ (notFace_of_selects (args := #[]) (mvT hZ (ow hw 115 rfl))) (ow hw 114 rfl) (ow hw 113 rfl) (by decide)) (Cond.privateMethod_at (mvP hZ (ow hw 114 rfl) (args := #[]))) (mvT hZ (ow hw 116 rfl)) (by decide) (backOf (W := 0) (rm20_11 l Z a0 hw [] b cn sa va kv us vb kb nb wx cs h0 n0 Z0 F0 F1 Bk F3 F4 Bx G0 Fk G2 Vk gx nbv hcn (by first | assumption | decide | omega) hsm Cs hcs Ox) hZ (ow hw 116 rfl) (ow hw 77 rfl) (by decide) (by decide)) (g := (mkF m 30 #[oa b, oa sa, oi (nb >>> ((1 : Int32) &&& 31))] [(.ref sa), (.int cn), (.ref b)])) rfl (by rw [hml]; rfl) (Steps.refl _) (a := b) (by rw [e58]; exact q59) q59' (argsL := [(.int cn), (.ref sa)]) (rest := []) (lenOf pd32 rfl) rfl (Nat.le_of_eq rfl) (hb hby d16_30) (fun _ _ => ⟨rfl, e58, (by decide : 0 + 0 ≤ _), (by decide : 0 + 0 ≤ _)⟩)
      dsimp only [Pt.U, Pt.locs, Pt.cells, Pt.slots] at X59 l59 y59 z59 st59 hQ59
      subst l59 y59 z59
      obtain ⟨rfl, N59q, K59, f59_0, f59_1, f59_2, f59_3, f59_4, f59_5⟩ := hQ59
      have N59 := Fr.app N57 N59q
      have Z60 : n0 ≤ T59.heap.size := Nat.le_trans Z0 K59.1
      have K61 : Keep h0 T59.heap [b, va] := (Keep.refl h0 [b, va]).trans K59 (allS (P := fun x => x ∈ _ ∨ _) (Or.inl (List.mem_of_getElem? (i := 1) rfl)) all0)
      obtain ⟨T62, X62, e62, st62⟩ := getF X59 hx hZ hown (host := "") (Or.inl (ow hw 105 rfl)) Via.refl rfl f59_3 (g := (mkF m 35 #[oa b, oa sa, oi (nb >>> ((1 : Int32) &&& 31))] [(.ref b), (.ref b)])) rfl rfl (hb hby d16_35)
      obtain ⟨T63, h63, X63, e63, W63, st63⟩ := putF X62 hx hZ hown (host := "") (Or.inl (ow hw 105 rfl)) Via.refl e62 f59_3 f59_0 (Or.inl (ow hw 106 rfl)) (ow hw 68 rfl) (ty := .int) (by decide) rfl rfl (g := (mkF m 40 #[oa b, oa sa, oi (nb >>> ((1 : Int32) &&& 31))] [(.int (cn + (nb >>> ((1 : Int32) &&& 31)))), (.ref b)])) rfl rfl (hb hby d16_40)
      have fw63 : Fld Z h63 b oA "count" "I" (.int (cn + (nb >>> ((1 : Int32) &&& 31)))) := f59_3.same W63
      have Z64 : n0 ≤ h63.size := Nat.le_trans Z60 (Nat.le_of_eq W63.size.symm)
      have K65 : Keep h0 h63 [b, va] := K61.wr W63 (Or.inl (List.mem_of_getElem? (i := 0) rfl))
      have N63 := Fr.snoc X63 N59 gb
      obtain ⟨fsZ, hrZ, hrun, hended, hW, hsame⟩ := X63.leave (v := some (.ref b)) (fun h => by rw [Bd.returns] at h; cases h)
      have hqs : own_sbe (us ++ wx) (1 : Int32) (32 : Int32) (own_ub (us ++ wx)) := own_sbU hcu hchs hsm (Or.inl hlau)
      have hqc : (cn + (nb >>> ((1 : Int32) &&& 31))).toInt = (us ++ wx).length := (own_mc hcn (own_ln1 hnb) hsm).2
      have fa66 := (f59_0.wr W63)
      have fa67 := (f59_1.other W63 (Or.inr (slot_ne (Or.inl (ow hw 82 rfl)) (Or.inl (ow hw 106 rfl)) (by decide) (t := (.array .byte)) (t' := .int) (by decide) (by decide))))
      have fa68 := (f59_2.other W63 (Or.inr (slot_ne (Or.inl (ow hw 84 rfl)) (Or.inl (ow hw 106 rfl)) (by decide) (t := .byte) (t' := .int) (by decide) (by decide))))
      have fa69 := (f59_4.other W63 (Or.inr (slot_ne (Or.inl (ow hw 255 rfl)) (Or.inl (ow hw 106 rfl)) (by decide) (t := .boolean) (t' := .int) (by decide) (by decide))))
      have fa70 := (f59_5.other W63 (Ne.symm nbv))
      refine ⟨_, _, pre0 _ ?_, hrun, hended, _, _, rfl, ?_, ⟨_, rfl⟩, hW, hsame.mono (by decide) (by decide)⟩
      · show Steps _ _ _ (s₁.setTop (mkF m 0 #[oa b, oa sa, .unset] [])) _
        refine XS.aloadN X0.here hx rfl (hb hby d16_0) rfl rfl ?_
        refine XS.ifnonnullYes X0.here hx rfl (pc0 := 1) (pc' := 9) rfl (hb hby d16_1) rfl (by decide) (by decide) ?_
        refine XS.aloadN X0.here hx rfl (hb hby d16_9) rfl rfl ?_
        refine st55.trans ?_
        refine XS.istoreN X55.here hx rfl (hb hby d16_13) rfl (l' := #[oa b, oa sa, oi (nb >>> ((1 : Int32) &&& 31))]) rfl ?_
        refine XS.aloadN X55.here hx rfl (hb hby d16_14) rfl rfl ?_
        refine XS.aloadN X55.here hx rfl (hb hby d16_15) rfl rfl ?_
        refine st56 _ ?_
        show Steps _ _ _ (T56.setTop (mkF m 19 #[oa b, oa sa, oi (nb >>> ((1 : Int32) &&& 31))] [(.int cn), (.ref b)])) _
        refine XS.iloadN X56.here hx rfl (hb hby d16_19) rfl  ?_
        refine XS.iadd X56.here hx rfl (hb hby d16_20) rfl ?_
        refine st57.trans ?_
        refine XS.aloadN X57.here hx rfl (hb hby d16_24) rfl rfl ?_
        refine XS.aloadN X57.here hx rfl (hb hby d16_25) rfl rfl ?_
        refine st58 _ ?_
        refine XS.aloadN X58.here hx rfl (hb hby d16_29) rfl rfl ?_
        refine st59.trans ?_
        show Steps _ _ _ (T59.setTop (mkF m 33 #[oa b, oa sa, oi (nb >>> ((1 : Int32) &&& 31))] [])) _
        refine XS.aloadN X59.here hx rfl (hb hby d16_33) rfl rfl ?_
        refine XS.dup X59.here hx rfl (hb hby d16_34) rfl rfl ?_
        refine st62 _ ?_
        refine XS.iloadN X62.here hx rfl (hb hby d16_38) rfl  ?_
        refine XS.iadd X62.here hx rfl (hb hby d16_39) rfl ?_
        refine st63 _ ?_
        refine XS.aloadN X63.here hx rfl (hb hby d16_43) rfl rfl ?_
        show Steps _ _ _ (T63.setTop (mkF m 44 #[oa b, oa sa, oi (nb >>> ((1 : Int32) &&& 31))] [(.ref b)])) _
        jvm_step X63.here [X63.here.top, hx, (hb hby d16_44), X63.method', Bd.returns, Value.isRef, FieldType.isReference]
        first | (intro acts; rw [hrZ _ acts rfl rfl rfl]) | rw [hrZ _ _ rfl rfl rfl]
        exact Steps.refl _
      · show Q16 Z b sa va kv bc nv xs cn vb kb kc nb vs us wx cs fm h0 n0 _ T63.heap _
        rw [e63]
        exact ⟨va, kv, (1 : Int32), (32 : Int32), (own_ub (us ++ wx)), (cn + (nb >>> ((1 : Int32) &&& 31))), rfl, N63, K65, gx, nbv, (by first | assumption | exact own_b01 _ | decide | omega | exact Or.inl rfl | exact Or.inr (by assumption)), (by first | assumption | exact own_b01 _ | decide | omega | exact Or.inl rfl | exact Or.inr (by assumption)), (by first | assumption | exact own_b01 _ | decide | omega | exact Or.inl rfl | exact Or.inr (by assumption)), fa66, fa67, fa68, fw63, fa69, fa70⟩
theorem d15_0 : decode zc39 0 = .ok (.aload_n 0, 1) := by decide +kernel
theorem d15_1 : decode zc39 1 = .ok (.aload_n 1, 1) := by decide +kernel
theorem d15_2 : decode zc39 2 = .ok (.invokespecial 29, 3) := by decide +kernel
theorem pd33 : parseMethodDescriptor "(Ljava/lang/String;)Ljava/lang/AbstractStringBuilder;" = some ⟨[(.object oS)], some (.object oA)⟩ := by decide +kernel
theorem d15_5 : decode zc39 5 = .ok (.pop, 1) := by decide +kernel
theorem d15_6 : decode zc39 6 = .ok (.aload_n 0, 1) := by decide +kernel
theorem d15_7 : decode zc39 7 = .ok (.areturn, 1) := by decide +kernel
theorem ef15 (m : MethodId) (b : Addr) (sa : Addr) : entryFrame m #[(.ref b), (.ref sa)] 2 = mkF m 0 #[oa b, oa sa] [] := by first | (simp [entryFrame, mkF, argsToLocals, Value.category]; done) | rfl
def Q15 (Z : State) (b : Addr) (sa : Addr) (va : Addr) (kv : ClassId) (bc : Int32) (nv : Int32) (xs : List Value) (cn : Int32) (vb : Addr) (kb : ClassId) (kc : Int32) (nb : Int32) (vs : List Value) (us : List Int32) (wx : List Int32) (cs : Int32) (fm : Value) (h0 : Heap) (n0 : Nat) (v : Option Value) (h : Heap) (L : List Loc) : Prop := ∃ (va2 : Addr) (kv2 : ClassId) (bc2 : Int32) (nv2 : Int32) (xs2 : List Value) (cn2 : Int32), v = some (.ref b) ∧ Fr n0 L ∧ Keep h0 h [b, va] ∧ n0 ≤ va2 ∧ b ≠ va2 ∧ (va2 = va ∨ h0.size ≤ va2) ∧ own_sbe (us ++ wx) bc2 nv2 xs2 ∧ cn2.toInt = (us ++ wx).length ∧ Exa Z h b oB ∧ Fld Z h b oA "value" "[B" (.ref va2) ∧ Fld Z h b oA "coder" "B" (.int bc2) ∧ Fld Z h b oA "count" "I" (.int cn2) ∧ Fld Z h b oA "maybeLatin1" "Z" (.int 0) ∧ Arv Z h va2 kv2 .byte nv2 xs2 (.int 0)
theorem rm15 (l : Launch) (Z : State) (a0 : Array Value) (hw : ∀ d ∈ tables_1, d.before a0 Z = true) (ws : List Jvm.Cond) (b : Addr) (sa : Addr) (va : Addr) (kv : ClassId) (bc : Int32) (nv : Int32) (xs : List Value) (cn : Int32) (vb : Addr) (kb : ClassId) (kc : Int32) (nb : Int32) (vs : List Value) (us : List Int32) (wx : List Int32) (cs : Int32) (fm : Value) (h0 : Heap) (n0 : Nat) (Z0 : n0 ≤ h0.size) (F0 : Exa Z h0 b oB) (F1 : Fld Z h0 b oA "value" "[B" (.ref va)) (F2 : Fld Z h0 b oA "coder" "B" (.int bc)) (F3 : Fld Z h0 b oA "count" "I" (.int cn)) (F4 : Fld Z h0 b oA "maybeLatin1" "Z" (.int 0)) (F5 : Arv Z h0 va kv .byte nv xs (.int 0)) (G0 : Exa Z h0 sa oS) (G1 : Fld Z h0 sa oS "coder" "B" (.int kc)) (G2 : Fld Z h0 sa oS "value" "[B" (.ref vb)) (G3 : Arv Z h0 vb kb .byte nb vs (.int 0)) (gb : n0 ≤ b) (gx : n0 ≤ va) (nbv : b ≠ va) (nsb : sa ≠ b) (nsv : sa ≠ va) (nvb : vb ≠ b) (nvv : vb ≠ va) (hsb : own_sbe us bc nv xs) (henc : own_enc wx kc nb vs) (hcn : cn.toInt = us.length) (hsm : us.length + wx.length ≤ 16) (Cs : Sta Z Z.heap oS "COMPACT_STRINGS" "Z" (.int cs)) (hcs : ¬ (cs = (0 : Int32))) (Ox : Old Z n0 h0) (Fm : Sta Z Z.heap "jdk/internal/util/Preconditions" "SIOOBE_FORMATTER" "Ljava/util/function/BiFunction;" fm) (hfm : fm.isRef = true) (Ua : Sta Z Z.heap o6 "$assertionsDisabled" "Z" (.int 1)) (Uh : Sta Z Z.heap o6 "HI_BYTE_SHIFT" "I" (.int 0)) (Ul : Sta Z Z.heap o6 "LO_BYTE_SHIFT" "I" (.int 8)) :
    MetFree l oM39 (head1 (Jvm.Cond.code oM39 zc39 2 (some (.object oB)) :: ws) oR33) (fun a U => a = #[(.ref b), (.ref sa)] ∧ Z.Warmed39 U.vm ∧ U.heap = h0) (fun _ _ _ _ _ => True) (fun _ U o U' => ∃ v L, o = .returned v ∧ Q15 Z b sa va kv bc nv xs cn vb kb kc nb vs us wx cs fm h0 n0 v U'.heap L ∧ FrameEnd U o U' L oR33.cells oR33.slots) := by
  refine MetFree.of_bodySF (plainFor_of_name pn24) hisR ?_
  intro p e s m args below meth c s₁ Bd hml0 hP hK
  obtain ⟨rfl, hZ, hh⟩ := hP
  have hx := Bd.exec
  have hby := Bd.bytes
  have hml : c.maxLocals = 2 := hml0
  have hown : s.vm.findClass oB = some m.cls := findClass_of_methodNamed Bd.named
  have X0 : Stand p l e oR33 s m #[(.ref b), (.ref sa)] below meth c s₁ [] 0 0 := Stand.of_body Bd
  have e0 : s₁.heap = h0 := by rw [← hh, Bd.state]; rfl
  have N0 := Fr.nil n0
  have pre0 := own_pre (p := p) (e := e) (below := below) (s₁ := s₁) (ef15 m b sa)
  obtain ⟨_, _, ⟨T1, L1, k1, n1⟩, -, X1, ⟨Lc1, hQ1, l1, y1, z1⟩, st1⟩ := superBack X0 hx hZ (y := oM38) hown (ow hw 90 rfl) (own_same (ow hw 93 rfl) (ow hw 110 rfl) rfl (by decide)) (ow hw 91 rfl) (ow hw 92 rfl) (by decide) (backOf (W := 0) (rm16 l Z a0 hw [] b sa va kv bc nv xs cn vb kb kc nb vs us wx cs fm h0 n0 Z0 F0 F1 F2 F3 F4 F5 G0 G1 G2 G3 gb gx nbv nsb nsv nvb nvv hsb henc hcn hsm Cs hcs Ox Fm hfm Ua Uh Ul) hZ (ow hw 94 rfl) (ow hw 77 rfl) (by decide) (by decide)) e0 (Ins.self F0) (g := (mkF m 2 #[oa b, oa sa] [(.ref sa), (.ref b)])) rfl (by rw [hml]; rfl) (ow hw 94 rfl) (argsL := [(.ref sa)]) (rest := []) (lenOf pd33 rfl) rfl (Nat.le_of_eq rfl) (hb hby d15_2) (fun _ _ => ⟨rfl, e0, (by decide : 0 + 1 ≤ _), (by decide : 0 + 32 ≤ _)⟩)
  dsimp only [Pt.U, Pt.locs, Pt.cells, Pt.slots] at X1 l1 y1 z1 st1 hQ1
  subst l1 y1 z1
  obtain ⟨va2_2, kv2_3, bc2_4, nv2_5, xs2_6, cn2_7, rfl, N1q, K1, u1_0, u1_1, u1_2, u1_3, u1_4, f1_0, f1_1, f1_2, f1_3, f1_4, f1_5⟩ := hQ1
  have N1 := Fr.app N0 N1q
  have Z8 : n0 ≤ T1.heap.size := Nat.le_trans Z0 K1.1
  have K9 : Keep h0 T1.heap [b, va] := (Keep.refl h0 [b, va]).trans K1 (allS (P := fun x => x ∈ _ ∨ _) (Or.inl (List.mem_of_getElem? (i := 0) rfl)) (allS (P := fun x => x ∈ _ ∨ _) (Or.inl (List.mem_of_getElem? (i := 1) rfl)) all0))
  have ne10 : sa ≠ va2_2 := own_nev u1_2 nsv G0.lt
  have ne11 : vb ≠ va2_2 := own_nev u1_2 nvv G3.lt
  obtain ⟨fsZ, hrZ, hrun, hended, hW, hsame⟩ := X1.leave (v := some (.ref b)) (fun h => by rw [Bd.returns] at h; cases h)
  refine ⟨_, _, pre0 _ ?_, hrun, hended, _, _, rfl, ?_, ⟨_, rfl⟩, hW, hsame.mono (by decide) (by decide)⟩
  · show Steps _ _ _ (s₁.setTop (mkF m 0 #[oa b, oa sa] [])) _
    refine XS.aloadN X0.here hx rfl (hb hby d15_0) rfl rfl ?_
    refine XS.aloadN X0.here hx rfl (hb hby d15_1) rfl rfl ?_
    refine st1.trans ?_
    refine XS.pop X1.here hx rfl (hb hby d15_5) rfl rfl ?_
    refine XS.aloadN X1.here hx rfl (hb hby d15_6) rfl rfl ?_
    show Steps _ _ _ (T1.setTop (mkF m 7 #[oa b, oa sa] [(.ref b)])) _
    jvm_step X1.here [X1.here.top, hx, (hb hby d15_7), X1.method', Bd.returns, Value.isRef, FieldType.isReference]
    first | (intro acts; rw [hrZ _ acts rfl rfl rfl]) | rw [hrZ _ _ rfl rfl rfl]
    exact Steps.refl _
  · show Q15 Z b sa va kv bc nv xs cn vb kb kc nb vs us wx cs fm h0 n0 _ T1.heap _
    exact ⟨va2_2, kv2_3, bc2_4, nv2_5, xs2_6, cn2_7, rfl, N1, K9, u1_0, u1_1, (by first | assumption | exact own_b01 _ | decide | omega | exact Or.inl rfl | exact Or.inr (by assumption)), (by first | assumption | exact own_b01 _ | decide | omega | exact Or.inl rfl | exact Or.inr (by assumption)), (by first | assumption | exact own_b01 _ | decide | omega | exact Or.inl rfl | exact Or.inr (by assumption)), f1_0, f1_1, f1_2, f1_3, f1_4, f1_5⟩
theorem d26_0 : decode zc40 0 = .ok (.aload_n 0, 1) := by decide +kernel
theorem d26_1 : decode zc40 1 = .ok (.getfield 15, 3) := by decide +kernel
theorem d26_4 : decode zc40 4 = .ok (.areturn, 1) := by decide +kernel
theorem ef26 (m : MethodId) (b : Addr) : entryFrame m #[(.ref b)] 1 = mkF m 0 #[oa b] [] := by first | (simp [entryFrame, mkF, argsToLocals, Value.category]; done) | rfl
def Q26 (Z : State) (b : Addr) (va : Addr) (h0 : Heap) (n0 : Nat) (v : Option Value) (h : Heap) (L : List Loc) : Prop := v = some (.ref va) ∧ Fr n0 L ∧ h = h0
theorem rm26 (l : Launch) (Z : State) (a0 : Array Value) (hw : ∀ d ∈ tables_1, d.before a0 Z = true) (ws : List Jvm.Cond) (b : Addr) (va : Addr) (h0 : Heap) (n0 : Nat) (Z0 : n0 ≤ h0.size) (F1 : Fld Z h0 b oA "value" "[B" (.ref va)) :
    MetFree l oM40 (head1 (Jvm.Cond.code oM40 zc40 1 (some (.array .byte)) :: ws) oR0) (fun a U => a = #[(.ref b)] ∧ Z.Warmed39 U.vm ∧ U.heap = h0) (fun _ _ _ _ _ => True) (fun _ U o U' => ∃ v L, o = .returned v ∧ Q26 Z b va h0 n0 v U'.heap L ∧ FrameEnd U o U' L oR0.cells oR0.slots) := by
  refine MetFree.of_bodySF (plainFor_of_name pn23) hisR ?_
  intro p e s m args below meth c s₁ Bd hml0 hP hK
  obtain ⟨rfl, hZ, hh⟩ := hP
  have hx := Bd.exec
  have hby := Bd.bytes
  have hml : c.maxLocals = 1 := hml0
  have hown : s.vm.findClass oA = some m.cls := findClass_of_methodNamed Bd.named
  have X0 : Stand p l e oR0 s m #[(.ref b)] below meth c s₁ [] 0 0 := Stand.of_body Bd
  have e0 : s₁.heap = h0 := by rw [← hh, Bd.state]; rfl
  have N0 := Fr.nil n0
  have pre0 := own_pre (p := p) (e := e) (below := below) (s₁ := s₁) (ef26 m b)
  obtain ⟨T1, X1, e1, st1⟩ := getF X0 hx hZ hown (host := "") (Or.inl (ow hw 81 rfl)) Via.refl e0 F1 (g := (mkF m 1 #[oa b] [(.ref b)])) rfl rfl (hb hby d26_1)
  obtain ⟨fsZ, hrZ, hrun, hended, hW, hsame⟩ := X1.leave (v := some (.ref va)) (fun h => by rw [Bd.returns] at h; cases h)
  refine ⟨_, _, pre0 _ ?_, hrun, hended, _, _, rfl, ?_, ⟨_, rfl⟩, hW, hsame.mono (by decide) (by decide)⟩
  · show Steps _ _ _ (s₁.setTop (mkF m 0 #[oa b] [])) _
    refine XS.aloadN X0.here hx rfl (hb hby d26_0) rfl rfl ?_
    refine st1 _ ?_
    show Steps _ _ _ (T1.setTop (mkF m 4 #[oa b] [(.ref va)])) _
    jvm_step X1.here [X1.here.top, hx, (hb hby d26_4), X1.method', Bd.returns, Value.isRef, FieldType.isReference]
    first | (intro acts; rw [hrZ _ acts rfl rfl rfl]) | rw [hrZ _ _ rfl rfl rfl]
    exact Steps.refl _
  · show Q26 Z b va h0 n0 _ T1.heap _
    rw [e1]
    exact ⟨rfl, N0, rfl⟩
theorem d28_0 : decode zc41 0 = .ok (.aload_n 0, 1) := by decide +kernel
theorem d28_1 : decode zc41 1 = .ok (.getfield 79, 3) := by decide +kernel
theorem d28_4 : decode zc41 4 = .ok (.ireturn, 1) := by decide +kernel
theorem ef28 (m : MethodId) (b : Addr) : entryFrame m #[(.ref b)] 1 = mkF m 0 #[oa b] [] := by first | (simp [entryFrame, mkF, argsToLocals, Value.category]; done) | rfl
def Q28 (Z : State) (b : Addr) (cn : Int32) (h0 : Heap) (n0 : Nat) (v : Option Value) (h : Heap) (L : List Loc) : Prop := v = some (.int cn) ∧ Fr n0 L ∧ h = h0
theorem rm28 (l : Launch) (Z : State) (a0 : Array Value) (hw : ∀ d ∈ tables_1, d.before a0 Z = true) (ws : List Jvm.Cond) (b : Addr) (cn : Int32) (h0 : Heap) (n0 : Nat) (Z0 : n0 ≤ h0.size) (F3 : Fld Z h0 b oA "count" "I" (.int cn)) :
    MetFree l oM41 (head1 (Jvm.Cond.code oM41 zc41 1 (some .int) :: ws) oR0) (fun a U => a = #[(.ref b)] ∧ Z.Warmed39 U.vm ∧ U.heap = h0) (fun _ _ _ _ _ => True) (fun _ U o U' => ∃ v L, o = .returned v ∧ Q28 Z b cn h0 n0 v U'.heap L ∧ FrameEnd U o U' L oR0.cells oR0.slots) := by
  refine MetFree.of_bodySF (plainFor_of_name pn23) hisR ?_
  intro p e s m args below meth c s₁ Bd hml0 hP hK
  obtain ⟨rfl, hZ, hh⟩ := hP
  have hx := Bd.exec
  have hby := Bd.bytes
  have hml : c.maxLocals = 1 := hml0
  have hown : s.vm.findClass oA = some m.cls := findClass_of_methodNamed Bd.named
  have X0 : Stand p l e oR0 s m #[(.ref b)] below meth c s₁ [] 0 0 := Stand.of_body Bd
  have e0 : s₁.heap = h0 := by rw [← hh, Bd.state]; rfl
  have N0 := Fr.nil n0
  have pre0 := own_pre (p := p) (e := e) (below := below) (s₁ := s₁) (ef28 m b)
  obtain ⟨T1, X1, e1, st1⟩ := getF X0 hx hZ hown (host := "") (Or.inl (ow hw 105 rfl)) Via.refl e0 F3 (g := (mkF m 1 #[oa b] [(.ref b)])) rfl rfl (hb hby d28_1)
  obtain ⟨fsZ, hrZ, hrun, hended, hW, hsame⟩ := X1.leave (v := some (.int cn)) (fun h => by rw [Bd.returns] at h; cases h)
  refine ⟨_, _, pre0 _ ?_, hrun, hended, _, _, rfl, ?_, ⟨_, rfl⟩, hW, hsame.mono (by decide) (by decide)⟩
  · show Steps _ _ _ (s₁.setTop (mkF m 0 #[oa b] [])) _
    refine XS.aloadN X0.here hx rfl (hb hby d28_0) rfl rfl ?_
    refine st1 _ ?_
    show Steps _ _ _ (T1.setTop (mkF m 4 #[oa b] [(.int cn)])) _
    exact retI X1 hx Bd.returns (hb hby d28_4) hrZ
  · show Q28 Z b cn h0 n0 _ T1.heap _
    rw [e1]
    exact ⟨rfl, N0, rfl⟩
theorem d27_0 : decode zc42 0 = .ok (.aload_n 0, 1) := by decide +kernel
theorem d27_1 : decode zc42 1 = .ok (.invokespecial 343, 3) := by decide +kernel
theorem d27_4 : decode zc42 4 = .ok (.ireturn, 1) := by decide +kernel
theorem ef27 (m : MethodId) (b : Addr) : entryFrame m #[(.ref b)] 1 = mkF m 0 #[oa b] [] := by first | (simp [entryFrame, mkF, argsToLocals, Value.category]; done) | rfl
def Q27 (Z : State) (b : Addr) (cn : Int32) (h0 : Heap) (n0 : Nat) (v : Option Value) (h : Heap) (L : List Loc) : Prop := v = some (.int cn) ∧ Fr n0 L ∧ h = h0
theorem rm27 (l : Launch) (Z : State) (a0 : Array Value) (hw : ∀ d ∈ tables_1, d.before a0 Z = true) (ws : List Jvm.Cond) (b : Addr) (cn : Int32) (h0 : Heap) (n0 : Nat) (Z0 : n0 ≤ h0.size) (Ex1 : Exa Z h0 b oB) (F3 : Fld Z h0 b oA "count" "I" (.int cn)) :
    MetFree l oM42 (head1 (Jvm.Cond.code oM42 zc42 1 (some .int) :: ws) oR15) (fun a U => a = #[(.ref b)] ∧ Z.Warmed39 U.vm ∧ U.heap = h0) (fun _ _ _ _ _ => True) (fun _ U o U' => ∃ v L, o = .returned v ∧ Q27 Z b cn h0 n0 v U'.heap L ∧ FrameEnd U o U' L oR15.cells oR15.slots) := by
  refine MetFree.of_bodySF (plainFor_of_name pn24) hisR ?_
  intro p e s m args below meth c s₁ Bd hml0 hP hK
  obtain ⟨rfl, hZ, hh⟩ := hP
  have hx := Bd.exec
  have hby := Bd.bytes
  have hml : c.maxLocals = 1 := hml0
  have hown : s.vm.findClass oB = some m.cls := findClass_of_methodNamed Bd.named
  have X0 : Stand p l e oR15 s m #[(.ref b)] below meth c s₁ [] 0 0 := Stand.of_body Bd
  have e0 : s₁.heap = h0 := by rw [← hh, Bd.state]; rfl
  have N0 := Fr.nil n0
  have pre0 := own_pre (p := p) (e := e) (below := below) (s₁ := s₁) (ef27 m b)
  obtain ⟨_, _, ⟨T1, L1, k1, n1⟩, -, X1, ⟨Lc1, hQ1, l1, y1, z1⟩, st1⟩ := superBack X0 hx hZ (y := oM41) hown (ow hw 158 rfl) (own_same (ow hw 153 rfl) (ow hw 110 rfl) rfl (by decide)) (ow hw 154 rfl) (ow hw 92 rfl) (by decide) (backOf (W := 0) (rm28 l Z a0 hw [] b cn h0 n0 Z0 F3) hZ (ow hw 159 rfl) (ow hw 77 rfl) (by decide) (by decide)) e0 (Ins.self Ex1) (g := (mkF m 1 #[oa b] [(.ref b)])) rfl (by rw [hml]; rfl) (ow hw 159 rfl) (argsL := []) (rest := []) (lenOf pd31 rfl) rfl (Nat.le_of_eq rfl) (hb hby d27_1) (fun _ _ => ⟨rfl, e0, (by decide : 0 + 0 ≤ _), (by decide : 0 + 0 ≤ _)⟩)
  dsimp only [Pt.U, Pt.locs, Pt.cells, Pt.slots] at X1 l1 y1 z1 st1 hQ1
  subst l1 y1 z1
  obtain ⟨rfl, N1q, e1⟩ := hQ1
  have N1 := Fr.app N0 N1q
  obtain ⟨fsZ, hrZ, hrun, hended, hW, hsame⟩ := X1.leave (v := some (.int cn)) (fun h => by rw [Bd.returns] at h; cases h)
  refine ⟨_, _, pre0 _ ?_, hrun, hended, _, _, rfl, ?_, ⟨_, rfl⟩, hW, hsame.mono (by decide) (by decide)⟩
  · show Steps _ _ _ (s₁.setTop (mkF m 0 #[oa b] [])) _
    refine XS.aloadN X0.here hx rfl (hb hby d27_0) rfl rfl ?_
    refine st1.trans ?_
    show Steps _ _ _ (T1.setTop (mkF m 4 #[oa b] [(.int cn)])) _
    exact retI X1 hx Bd.returns (hb hby d27_4) hrZ
  · show Q27 Z b cn h0 n0 _ T1.heap _
    rw [e1]
    exact ⟨rfl, N1, rfl⟩
theorem pn34 : plainName "java/util/Arrays" = true := by first | (simp [plainName, overriddenIn]; done) | decide +kernel
theorem d32_0 : decode zc43 0 = .ok (.iload_n 1, 1) := by decide +kernel
theorem d32_1 : decode zc43 1 = .ok (.iload_n 0, 1) := by decide +kernel
theorem d32_2 : decode zc43 2 = .ok (.if_icmp .ge 35, 3) := by decide +kernel
theorem d32_37 : decode zc43 37 = .ok (.return_, 1) := by decide +kernel
theorem ef32 (m : MethodId) (n : Int32) : entryFrame m #[(.int 0), (.int n)] 2 = mkF m 0 #[oi 0, oi n] [] := by first | (simp [entryFrame, mkF, argsToLocals, Value.category]; done) | rfl
def Q32 (Z : State) (n : Int32) (h0 : Heap) (n0 : Nat) (v : Option Value) (h : Heap) (L : List Loc) : Prop := v = none ∧ Fr n0 L ∧ h = h0
theorem rm32 (l : Launch) (Z : State) (a0 : Array Value) (hw : ∀ d ∈ tables_1, d.before a0 Z = true) (ws : List Jvm.Cond) (n : Int32) (h0 : Heap) (n0 : Nat) (Z0 : n0 ≤ h0.size) (hn : ¬ (n < (0 : Int32))) :
    MetFree l oM43 (head1 (Jvm.Cond.code oM43 zc43 2 none :: ws) oR0) (fun a U => a = #[(.int 0), (.int n)] ∧ Z.Warmed39 U.vm ∧ U.heap = h0) (fun _ _ _ _ _ => True) (fun _ U o U' => ∃ v L, o = .returned v ∧ Q32 Z n h0 n0 v U'.heap L ∧ FrameEnd U o U' L oR0.cells oR0.slots) := by
  refine MetFree.of_bodySF (plainFor_of_name pn34) hisR ?_
  intro p e s m args below meth c s₁ Bd hml0 hP hK
  obtain ⟨rfl, hZ, hh⟩ := hP
  have hx := Bd.exec
  have hby := Bd.bytes
  have hml : c.maxLocals = 2 := hml0
  have hown : s.vm.findClass "java/util/Arrays" = some m.cls := findClass_of_methodNamed Bd.named
  have X0 : Stand p l e oR0 s m #[(.int 0), (.int n)] below meth c s₁ [] 0 0 := Stand.of_body Bd
  have e0 : s₁.heap = h0 := by rw [← hh, Bd.state]; rfl
  have N0 := Fr.nil n0
  have pre0 := own_pre (p := p) (e := e) (below := below) (s₁ := s₁) (ef32 m n)
  obtain ⟨fsZ, hrZ, hrun, hended, hW, hsame⟩ := X0.leave (v := none) (fun _ => rfl)
  refine ⟨_, _, pre0 _ ?_, hrun, hended, _, _, rfl, ?_, ⟨_, rfl⟩, hW, hsame.mono (by decide) (by decide)⟩
  · show Steps _ _ _ (s₁.setTop (mkF m 0 #[oi 0, oi n] [])) _
    refine XS.iloadN X0.here hx rfl (hb hby d32_0) rfl  ?_
    refine XS.iloadN X0.here hx rfl (hb hby d32_1) rfl  ?_
    refine XS.icmpYes X0.here hx rfl (pc0 := 2) (pc' := 37) rfl (hb hby d32_2) rfl (flt hn).2.1 (by decide) (by decide) ?_
    show Steps _ _ _ (s₁.setTop (mkF m 37 #[oi 0, oi n] [])) _
    exact X0.returnOut hx Bd.returns (hb hby d32_37) hrZ
  · show Q32 Z n h0 n0 _ s₁.heap _
    rw [e0]
    exact ⟨rfl, N0, rfl⟩
theorem d33_0 : decode zc44 0 = .ok (.iload_n 0, 1) := by decide +kernel
theorem d33_1 : decode zc44 1 = .ok (.iload_n 1, 1) := by decide +kernel
theorem d33_2 : decode zc44 2 = .ok (.if_icmp .gt 7, 3) := by decide +kernel
theorem d33_9 : decode zc44 9 = .ok (.iload_n 1, 1) := by decide +kernel
theorem d33_10 : decode zc44 10 = .ok (.ireturn, 1) := by decide +kernel
theorem ef33z16 (m : MethodId) (n : Int32) : entryFrame m #[(.int 16), (.int n)] 2 = mkF m 0 #[oi 16, oi n] [] := by first | (simp [entryFrame, mkF, argsToLocals, Value.category]; done) | rfl
def Q33z16 (Z : State) (n : Int32) (h0 : Heap) (n0 : Nat) (v : Option Value) (h : Heap) (L : List Loc) : Prop := v = some (.int n) ∧ Fr n0 L ∧ h = h0
theorem rm33z16 (l : Launch) (Z : State) (a0 : Array Value) (hw : ∀ d ∈ tables_1, d.before a0 Z = true) (ws : List Jvm.Cond) (n : Int32) (h0 : Heap) (n0 : Nat) (Z0 : n0 ≤ h0.size) (hn : n < (16 : Int32)) :
    MetFree l oM44 (head1 (Jvm.Cond.code oM44 zc44 2 (some .int) :: ws) oR0) (fun a U => a = #[(.int 16), (.int n)] ∧ Z.Warmed39 U.vm ∧ U.heap = h0) (fun _ _ _ _ _ => True) (fun _ U o U' => ∃ v L, o = .returned v ∧ Q33z16 Z n h0 n0 v U'.heap L ∧ FrameEnd U o U' L oR0.cells oR0.slots) := by
  refine MetFree.of_bodySF (Jvm.Free.JP.mathPlain rfl (by decide +kernel)) hisR ?_
  intro p e s m args below meth c s₁ Bd hml0 hP hK
  obtain ⟨rfl, hZ, hh⟩ := hP
  have hx := Bd.exec
  have hby := Bd.bytes
  have hml : c.maxLocals = 2 := hml0
  have hown : s.vm.findClass "java/lang/Math" = some m.cls := findClass_of_methodNamed Bd.named
  have X0 : Stand p l e oR0 s m #[(.int 16), (.int n)] below meth c s₁ [] 0 0 := Stand.of_body Bd
  have e0 : s₁.heap = h0 := by rw [← hh, Bd.state]; rfl
  have N0 := Fr.nil n0
  have pre0 := own_pre (p := p) (e := e) (below := below) (s₁ := s₁) (ef33z16 m n)
  obtain ⟨fsZ, hrZ, hrun, hended, hW, hsame⟩ := X0.leave (v := some (.int n)) (fun h => by rw [Bd.returns] at h; cases h)
  refine ⟨_, _, pre0 _ ?_, hrun, hended, _, _, rfl, ?_, ⟨_, rfl⟩, hW, hsame.mono (by decide) (by decide)⟩
  · show Steps _ _ _ (s₁.setTop (mkF m 0 #[oi 16, oi n] [])) _
    refine XS.iloadN X0.here hx rfl (hb hby d33_0) rfl  ?_
    refine XS.iloadN X0.here hx rfl (hb hby d33_1) rfl  ?_
    refine XS.icmpYes X0.here hx rfl (pc0 := 2) (pc' := 9) rfl (hb hby d33_2) rfl (tlt hn).2.2.1 (by decide) (by decide) ?_
    refine XS.iloadN X0.here hx rfl (hb hby d33_9) rfl  ?_
    show Steps _ _ _ (s₁.setTop (mkF m 10 #[oi 16, oi n] [(.int n)])) _
    exact retI X0 hx Bd.returns (hb hby d33_10) hrZ
  · show Q33z16 Z n h0 n0 _ s₁.heap _
    rw [e0]
    exact ⟨rfl, N0, rfl⟩
theorem d31_0 : decode zc45 0 = .ok (.iload_n 1, 1) := by decide +kernel
theorem d31_1 : decode zc45 1 = .ok (.iload_n 2, 1) := by decide +kernel
theorem d31_2 : decode zc45 2 = .ok (.invokestatic 343, 3) := by decide +kernel
theorem d31_5 : decode zc45 5 = .ok (.iload_n 2, 1) := by decide +kernel
theorem d31_6 : decode zc45 6 = .ok (.iload_n 1, 1) := by decide +kernel
theorem d31_7 : decode zc45 7 = .ok (.isub, 1) := by decide +kernel
theorem d31_8 : decode zc45 8 = .ok (.istore_n 3, 1) := by decide +kernel
theorem d31_9 : decode zc45 9 = .ok (.iload_n 3, 1) := by decide +kernel
theorem d31_10 : decode zc45 10 = .ok (.newarray .byte, 2) := by decide +kernel
theorem d31_12 : decode zc45 12 = .ok (.astore 4, 2) := by decide +kernel
theorem d31_14 : decode zc45 14 = .ok (.aload_n 0, 1) := by decide +kernel
theorem d31_15 : decode zc45 15 = .ok (.iload_n 1, 1) := by decide +kernel
theorem d31_16 : decode zc45 16 = .ok (.aload 4, 2) := by decide +kernel
theorem d31_18 : decode zc45 18 = .ok (.iconst 0, 1) := by decide +kernel
theorem d31_19 : decode zc45 19 = .ok (.aload_n 0, 1) := by decide +kernel
theorem d31_20 : decode zc45 20 = .ok (.arraylength, 1) := by decide +kernel
theorem d31_21 : decode zc45 21 = .ok (.iload_n 1, 1) := by decide +kernel
theorem d31_22 : decode zc45 22 = .ok (.isub, 1) := by decide +kernel
theorem d31_23 : decode zc45 23 = .ok (.iload_n 3, 1) := by decide +kernel
theorem d31_24 : decode zc45 24 = .ok (.invokestatic 304, 3) := by decide +kernel
theorem pd35 : parseMethodDescriptor "(II)I" = some ⟨[.int, .int], some .int⟩ := by decide +kernel
theorem d31_27 : decode zc45 27 = .ok (.invokestatic 150, 3) := by decide +kernel
theorem d31_30 : decode zc45 30 = .ok (.aload 4, 2) := by decide +kernel
theorem d31_32 : decode zc45 32 = .ok (.areturn, 1) := by decide +kernel
theorem ef31z16 (m : MethodId) (va : Addr) (n : Int32) : entryFrame m #[(.ref va), (.int 0), (.int n)] 5 = mkF m 0 #[oa va, oi 0, oi n, .unset, .unset] [] := by first | (simp [entryFrame, mkF, argsToLocals, Value.category]; done) | rfl
def Q31z16 (Z : State) (va : Addr) (n : Int32) (kv : ClassId) (xs : List Value) (h0 : Heap) (n0 : Nat) (v : Option Value) (h : Heap) (L : List Loc) : Prop := ∃ (vb : Addr) (kb : ClassId), v = some (.ref vb) ∧ Fr n0 L ∧ Keep h0 h [] ∧ n0 ≤ vb ∧ h0.size ≤ vb ∧ Arv Z h vb kb .byte n xs (.int 0)
theorem rm31z16 (l : Launch) (Z : State) (a0 : Array Value) (hw : ∀ d ∈ tables_1, d.before a0 Z = true) (ws : List Jvm.Cond) (va : Addr) (n : Int32) (kv : ClassId) (xs : List Value) (h0 : Heap) (n0 : Nat) (Z0 : n0 ≤ h0.size) (Vx : Arv Z h0 va kv .byte (16 : Int32) xs (.int 0)) (hxl : n.toNatClampNeg = xs.length) (hn0 : ¬ (n < (0 : Int32))) (hnz : n < (16 : Int32)) :
    MetFree l oM45 (head1 (Jvm.Cond.code oM45 zc45 5 (some (.array .byte)) :: ws) oR34) (fun a U => a = #[(.ref va), (.int 0), (.int n)] ∧ Z.Warmed39 U.vm ∧ U.heap = h0) (fun _ _ _ _ _ => True) (fun _ U o U' => ∃ v L, o = .returned v ∧ Q31z16 Z va n kv xs h0 n0 v U'.heap L ∧ FrameEnd U o U' L oR34.cells oR34.slots) := by
  refine MetFree.of_bodySF (plainFor_of_name pn34) hisR ?_
  intro p e s m args below meth c s₁ Bd hml0 hP hK
  obtain ⟨rfl, hZ, hh⟩ := hP
  have hx := Bd.exec
  have hby := Bd.bytes
  have hml : c.maxLocals = 5 := hml0
  have hown : s.vm.findClass "java/util/Arrays" = some m.cls := findClass_of_methodNamed Bd.named
  have X0 : Stand p l e oR34 s m #[(.ref va), (.int 0), (.int n)] below meth c s₁ [] 0 0 := Stand.of_body Bd
  have e0 : s₁.heap = h0 := by rw [← hh, Bd.state]; rfl
  have N0 := Fr.nil n0
  have pre0 := own_pre (p := p) (e := e) (below := below) (s₁ := s₁) (ef31z16 m va n)
  obtain ⟨_, _, ⟨T1, L1, k1, n1⟩, -, X1, ⟨Lc1, hQ1, l1, y1, z1⟩, st1⟩ := Jvm.LawKit.callS X0 hx (y := oM43) hown (mvT hZ (ow hw 172 rfl)) (mvT hZ (ow hw 173 rfl)) (mvT hZ (ow hw 167 rfl)) (mvT hZ (ow hw 174 rfl)) (by decide) (backOf (W := 0) (rm32 l Z a0 hw [] n h0 n0 Z0 hn0) hZ (ow hw 174 rfl) (ow hw 167 rfl) (by decide) (by decide)) (g := (mkF m 2 #[oa va, oi 0, oi n, .unset, .unset] [(.int n), (.int 0)])) rfl (by rw [hml]; rfl) (argsL := [(.int 0), (.int n)]) (rest := []) (lenOf pd8 rfl) rfl (Nat.le_of_eq rfl) (hb hby d31_2) (fun _ _ => ⟨rfl, e0, (by decide : 0 + 0 ≤ _), (by decide : 0 + 0 ≤ _)⟩)
  dsimp only [Pt.U, Pt.locs, Pt.cells, Pt.slots] at X1 l1 y1 z1 st1 hQ1
  subst l1 y1 z1
  obtain ⟨rfl, N1q, e1⟩ := hQ1
  have N1 := Fr.app N0 N1q
  obtain ⟨T2, h2, k2, X2, e2, E2, A2, st2⟩ := newP X1 hx hZ (ow hw 15 rfl) e1 (g := (mkF m 10 #[oa va, oi 0, oi n, oi n, .unset] [(.int n)])) rfl (hb hby d31_10) rfl hn0 (cap := 16) (own_le hnz) (by decide) (by decide) (by decide)
  obtain ⟨b2, g2⟩ : ∃ z, z = h0.size := ⟨_, rfl⟩
  rw [← g2] at A2 st2
  have ne3 := own_nb Vx.lt g2
  have gn_b2 : n0 ≤ b2 := Nat.le_trans Z0 (Nat.le_of_eq g2.symm)
  have sz_b2 : h0.size ≤ b2 := Nat.le_trans (Keep.refl h0 []).1 (Nat.le_of_eq g2.symm)
  have Z4 : n0 ≤ h2.size := Nat.le_trans Z0 E2.1
  have K5 : Keep h0 h2 [] := (Keep.refl h0 []).ext E2
  have V2 : Arv Z h2 b2 k2 .byte n [] (.int 0) := Arv.new A2 hn0
  have fa6 := (Vx.ext E2)
  obtain ⟨c7, Arc7, -, Sc7, Mc7, -, -⟩ := id fa6
  obtain ⟨_, _, ⟨T8, L8, k8, n8⟩, -, X8, ⟨Lc8, hQ8, l8, y8, z8⟩, st8⟩ := Jvm.LawKit.callS X2 hx (y := oM44) hown (mvT hZ (ow hw 175 rfl)) (mvT hZ (ow hw 176 rfl)) (mvT hZ (ow hw 177 rfl)) (mvT hZ (ow hw 178 rfl)) (by decide) (backOf (W := 4) (rm33z16 l Z a0 hw [] n h2 n0 Z4 hnz) hZ (ow hw 178 rfl) (ow hw 177 rfl) (by decide) (by decide)) (g := (mkF m 24 #[oa va, oi 0, oi n, oi n, oa b2] [(.int n), (.int 16), (.int 0), (.ref b2), (.int 0), (.ref va)])) rfl (by rw [hml]; rfl) (argsL := [(.int 16), (.int n)]) (rest := [(.int 0), (.ref b2), (.int 0), (.ref va)]) (lenOf pd35 rfl) rfl (Nat.le_of_eq rfl) (hb hby d31_24) (fun _ _ => ⟨rfl, e2, (by decide : 1 + 0 ≤ _), (by decide : 16 + 0 ≤ _)⟩)
  dsimp only [Pt.U, Pt.locs, Pt.cells, Pt.slots] at X8 l8 y8 z8 st8 hQ8
  subst l8 y8 z8
  obtain ⟨rfl, N8q, e8⟩ := hQ8
  have N8 := Fr.app N1 N8q
  have pd9 := Arv.pad V2 (pad_rep [] (.int 0) xs.length)
  have dp9 := own_dpc hxl hn0 hnz
  obtain ⟨T9, h9, L9, X9, e9, N9, K9, V9, st9⟩ := cpA X8 hx hZ hown (ow hw 179 rfl) (ow hw 131 rfl) (ow hw 129 rfl) (ow hw 130 rfl) e8 fa6 pd9 (us := xs) (Or.inl ⟨rfl, rfl⟩) (by decide) dp9.1 dp9.2.1 dp9.2.2.1 dp9.2.2.2.1 (own_rg _ _ _ dp9.2.2.2.2.1) (by rw [dp9.2.2.2.2.1, dp9.2.2.2.2.2]; simp) N8 gn_b2 (g := (mkF m 27 #[oa va, oi 0, oi n, oi n, oa b2] [(.int n), (.int 0), (.ref b2), (.int 0), (.ref va)])) rfl (by rw [hml]; rfl) rfl (hb hby d31_27) (by decide) (W := 0) (Nat.le_of_eq rfl) (by decide)
  have Z10 : n0 ≤ h9.size := Nat.le_trans Z4 K9.1
  have K11 : Keep h0 h9 [] := K5.trans K9 (allS (P := fun x => x ∈ _ ∨ _) (Or.inr sz_b2) all0)
  have U9 : Arv Z h9 b2 k2 .byte n xs (.int 0) := by have q := V9; rw [dp9.2.2.2.2.1, dp9.2.2.2.2.2, own_cp] at q; exact q
  obtain ⟨fsZ, hrZ, hrun, hended, hW, hsame⟩ := X9.leave (v := some (.ref b2)) (fun h => by rw [Bd.returns] at h; cases h)
  refine ⟨_, _, pre0 _ ?_, hrun, hended, _, _, rfl, ?_, ⟨_, rfl⟩, hW, hsame.mono (by decide) (by decide)⟩
  · show Steps _ _ _ (s₁.setTop (mkF m 0 #[oa va, oi 0, oi n, .unset, .unset] [])) _
    refine XS.iloadN X0.here hx rfl (hb hby d31_0) rfl  ?_
    refine XS.iloadN X0.here hx rfl (hb hby d31_1) rfl  ?_
    refine st1 _ ?_
    refine XS.iloadN X1.here hx rfl (hb hby d31_5) rfl  ?_
    refine XS.iloadN X1.here hx rfl (hb hby d31_6) rfl  ?_
    refine XS.isub X1.here hx rfl (hb hby d31_7) rfl ?_
    show Steps _ _ _ (T1.setTop (mkF m 8 #[oa va, oi 0, oi n, .unset, .unset] [(.int (n - (0 : Int32)))])) _
    rw [show (n - (0 : Int32)) = n from own_sub0 n]
    show Steps _ _ _ (T1.setTop (mkF m 8 #[oa va, oi 0, oi n, .unset, .unset] [(.int n)])) _
    refine XS.istoreN X1.here hx rfl (hb hby d31_8) rfl (l' := #[oa va, oi 0, oi n, oi n, .unset]) rfl ?_
    refine XS.iloadN X1.here hx rfl (hb hby d31_9) rfl  ?_
    refine st2 _ ?_
    refine XS.astore X2.here hx rfl (hb hby d31_12) rfl rfl (l' := #[oa va, oi 0, oi n, oi n, oa b2]) rfl ?_
    refine XS.aloadN X2.here hx rfl (hb hby d31_14) rfl rfl ?_
    refine XS.iloadN X2.here hx rfl (hb hby d31_15) rfl  ?_
    refine XS.aload X2.here hx rfl (hb hby d31_16) rfl rfl ?_
    refine XS.iconst X2.here hx rfl (hb hby d31_18) ?_
    show Steps _ _ _ (T2.setTop (mkF m 19 #[oa va, oi 0, oi n, oi n, oa b2] [(.int 0), (.ref b2), (.int 0), (.ref va)])) _
    refine XS.aloadN X2.here hx rfl (hb hby d31_19) rfl rfl ?_
    show Steps _ _ _ (T2.setTop (mkF m 20 #[oa va, oi 0, oi n, oi n, oa b2] [(.ref va), (.int 0), (.ref b2), (.int 0), (.ref va)])) _
    refine X2.arraylength hx (by rw [e2]; exact Arc7.1) (State.isArrayOf_alike hZ.alike Arc7.2.1) (g := (mkF m 20 #[oa va, oi 0, oi n, oi n, oa b2] [(.ref va), (.int 0), (.ref b2), (.int 0), (.ref va)])) rfl rfl (hb hby d31_20) _ ?_
    rw [len_of Sc7 Mc7]
    show Steps _ _ _ (T2.setTop (mkF m 21 #[oa va, oi 0, oi n, oi n, oa b2] [(.int 16), (.int 0), (.ref b2), (.int 0), (.ref va)])) _
    refine XS.iloadN X2.here hx rfl (hb hby d31_21) rfl  ?_
    refine XS.isub X2.here hx rfl (hb hby d31_22) rfl ?_
    show Steps _ _ _ (T2.setTop (mkF m 23 #[oa va, oi 0, oi n, oi n, oa b2] [(.int ((16 : Int32) - (0 : Int32))), (.int 0), (.ref b2), (.int 0), (.ref va)])) _
    rw [show ((16 : Int32) - (0 : Int32)) = (16 : Int32) from by decide]
    show Steps _ _ _ (T2.setTop (mkF m 23 #[oa va, oi 0, oi n, oi n, oa b2] [(.int 16), (.int 0), (.ref b2), (.int 0), (.ref va)])) _
    refine XS.iloadN X2.here hx rfl (hb hby d31_23) rfl  ?_
    refine st8 _ ?_
    refine st9 _ ?_
    refine XS.aload X9.here hx rfl (hb hby d31_30) rfl rfl ?_
    show Steps _ _ _ (T9.setTop (mkF m 32 #[oa va, oi 0, oi n, oi n, oa b2] [(.ref b2)])) _
    jvm_step X9.here [X9.here.top, hx, (hb hby d31_32), X9.method', Bd.returns, Value.isRef, FieldType.isReference]
    first | (intro acts; rw [hrZ _ acts rfl rfl rfl]) | rw [hrZ _ _ rfl rfl rfl]
    exact Steps.refl _
  · show Q31z16 Z va n kv xs h0 n0 _ T9.heap _
    rw [e9]
    exact ⟨b2, k2, rfl, N9, K11, gn_b2, sz_b2, U9⟩
theorem d30_0 : decode zc46 0 = .ok (.iload_n 1, 1) := by decide +kernel
theorem d30_1 : decode zc46 1 = .ok (.ifCond .ne 9, 3) := by decide +kernel
theorem d30_4 : decode zc46 4 = .ok (.iload_n 2, 1) := by decide +kernel
theorem d30_5 : decode zc46 5 = .ok (.aload_n 0, 1) := by decide +kernel
theorem d30_6 : decode zc46 6 = .ok (.arraylength, 1) := by decide +kernel
theorem d30_7 : decode zc46 7 = .ok (.if_icmp .eq 10, 3) := by decide +kernel
theorem d30_10 : decode zc46 10 = .ok (.aload_n 0, 1) := by decide +kernel
theorem d30_11 : decode zc46 11 = .ok (.iload_n 1, 1) := by decide +kernel
theorem d30_12 : decode zc46 12 = .ok (.iload_n 2, 1) := by decide +kernel
theorem d30_13 : decode zc46 13 = .ok (.invokestatic 339, 3) := by decide +kernel
theorem pd36 : parseMethodDescriptor "([BII)[B" = some ⟨[(.array .byte), .int, .int], some (.array .byte)⟩ := by decide +kernel
theorem d30_16 : decode zc46 16 = .ok (.areturn, 1) := by decide +kernel
theorem ef30z16 (m : MethodId) (va : Addr) (n : Int32) : entryFrame m #[(.ref va), (.int 0), (.int n)] 3 = mkF m 0 #[oa va, oi 0, oi n] [] := by first | (simp [entryFrame, mkF, argsToLocals, Value.category]; done) | rfl
def Q30z16 (Z : State) (va : Addr) (n : Int32) (kv : ClassId) (xs : List Value) (h0 : Heap) (n0 : Nat) (v : Option Value) (h : Heap) (L : List Loc) : Prop := ∃ (vb : Addr) (kb : ClassId), v = some (.ref vb) ∧ Fr n0 L ∧ Keep h0 h [] ∧ n0 ≤ vb ∧ h0.size ≤ vb ∧ Arv Z h vb kb .byte n xs (.int 0)
theorem rm30z16 (l : Launch) (Z : State) (a0 : Array Value) (hw : ∀ d ∈ tables_1, d.before a0 Z = true) (ws : List Jvm.Cond) (va : Addr) (n : Int32) (kv : ClassId) (xs : List Value) (h0 : Heap) (n0 : Nat) (Z0 : n0 ≤ h0.size) (Vx : Arv Z h0 va kv .byte (16 : Int32) xs (.int 0)) (hxl : n.toNatClampNeg = xs.length) (hn0 : ¬ (n < (0 : Int32))) (hnz : n < (16 : Int32)) :
    MetFree l oM46 (head1 (Jvm.Cond.code oM46 zc46 3 (some (.array .byte)) :: ws) oR35) (fun a U => a = #[(.ref va), (.int 0), (.int n)] ∧ Z.Warmed39 U.vm ∧ U.heap = h0) (fun _ _ _ _ _ => True) (fun _ U o U' => ∃ v L, o = .returned v ∧ Q30z16 Z va n kv xs h0 n0 v U'.heap L ∧ FrameEnd U o U' L oR35.cells oR35.slots) := by
  refine MetFree.of_bodySF (plainFor_of_name pn34) hisR ?_
  intro p e s m args below meth c s₁ Bd hml0 hP hK
  obtain ⟨rfl, hZ, hh⟩ := hP
  have hx := Bd.exec
  have hby := Bd.bytes
  have hml : c.maxLocals = 3 := hml0
  have hown : s.vm.findClass "java/util/Arrays" = some m.cls := findClass_of_methodNamed Bd.named
  have X0 : Stand p l e oR35 s m #[(.ref va), (.int 0), (.int n)] below meth c s₁ [] 0 0 := Stand.of_body Bd
  have e0 : s₁.heap = h0 := by rw [← hh, Bd.state]; rfl
  have N0 := Fr.nil n0
  have pre0 := own_pre (p := p) (e := e) (below := below) (s₁ := s₁) (ef30z16 m va n)
  obtain ⟨c1, Arc1, -, Sc1, Mc1, -, -⟩ := id Vx
  obtain ⟨_, _, ⟨T2, L2, k2, n2⟩, -, X2, ⟨Lc2, hQ2, l2, y2, z2⟩, st2⟩ := Jvm.LawKit.callS X0 hx (y := oM45) hown (mvT hZ (ow hw 169 rfl)) (mvT hZ (ow hw 170 rfl)) (mvT hZ (ow hw 167 rfl)) (mvT hZ (ow hw 171 rfl)) (by decide) (backOf (W := 0) (rm31z16 l Z a0 hw [] va n kv xs h0 n0 Z0 Vx hxl hn0 hnz) hZ (ow hw 171 rfl) (ow hw 167 rfl) (by decide) (by decide)) (g := (mkF m 13 #[oa va, oi 0, oi n] [(.int n), (.int 0), (.ref va)])) rfl (by rw [hml]; rfl) (argsL := [(.ref va), (.int 0), (.int n)]) (rest := []) (lenOf pd36 rfl) rfl (Nat.le_of_eq rfl) (hb hby d30_13) (fun _ _ => ⟨rfl, e0, (by decide : 0 + 1 ≤ _), (by decide : 0 + 16 ≤ _)⟩)
  dsimp only [Pt.U, Pt.locs, Pt.cells, Pt.slots] at X2 l2 y2 z2 st2 hQ2
  subst l2 y2 z2
  obtain ⟨vb_3, kb_4, rfl, N2q, K2, u2_0, u2_1, f2_0⟩ := hQ2
  have N2 := Fr.app N0 N2q
  have Z5 : n0 ≤ T2.heap.size := Nat.le_trans Z0 K2.1
  have K6 : Keep h0 T2.heap [] := (Keep.refl h0 []).trans K2 all0
  have ne7 := own_nc Vx.lt u2_1
  have sz_vb_3 : h0.size ≤ vb_3 := Nat.le_trans (Keep.refl h0 []).1 u2_1
  obtain ⟨fsZ, hrZ, hrun, hended, hW, hsame⟩ := X2.leave (v := some (.ref vb_3)) (fun h => by rw [Bd.returns] at h; cases h)
  refine ⟨_, _, pre0 _ ?_, hrun, hended, _, _, rfl, ?_, ⟨_, rfl⟩, hW, hsame.mono (by decide) (by decide)⟩
  · show Steps _ _ _ (s₁.setTop (mkF m 0 #[oa va, oi 0, oi n] [])) _
    refine XS.iloadN X0.here hx rfl (hb hby d30_0) rfl  ?_
    refine XS.ifNo X0.here hx rfl (hb hby d30_1) rfl ((if0 _ _).trans (teq (by decide)).2) ?_
    refine XS.iloadN X0.here hx rfl (hb hby d30_4) rfl  ?_
    refine XS.aloadN X0.here hx rfl (hb hby d30_5) rfl rfl ?_
    show Steps _ _ _ (s₁.setTop (mkF m 6 #[oa va, oi 0, oi n] [(.ref va), (.int n)])) _
    refine X0.arraylength hx (by rw [e0]; exact Arc1.1) (State.isArrayOf_alike hZ.alike Arc1.2.1) (g := (mkF m 6 #[oa va, oi 0, oi n] [(.ref va), (.int n)])) rfl rfl (hb hby d30_6) _ ?_
    rw [len_of Sc1 Mc1]
    show Steps _ _ _ (s₁.setTop (mkF m 7 #[oa va, oi 0, oi n] [(.int 16), (.int n)])) _
    refine XS.icmpNo X0.here hx rfl (hb hby d30_7) rfl (feq (own_nel hnz)).1 ?_
    refine XS.aloadN X0.here hx rfl (hb hby d30_10) rfl rfl ?_
    refine XS.iloadN X0.here hx rfl (hb hby d30_11) rfl  ?_
    refine XS.iloadN X0.here hx rfl (hb hby d30_12) rfl  ?_
    refine st2 _ ?_
    show Steps _ _ _ (T2.setTop (mkF m 16 #[oa va, oi 0, oi n] [(.ref vb_3)])) _
    jvm_step X2.here [X2.here.top, hx, (hb hby d30_16), X2.method', Bd.returns, Value.isRef, FieldType.isReference]
    first | (intro acts; rw [hrZ _ acts rfl rfl rfl]) | rw [hrZ _ _ rfl rfl rfl]
    exact Steps.refl _
  · show Q30z16 Z va n kv xs h0 n0 _ T2.heap _
    exact ⟨vb_3, kb_4, rfl, N2, K6, u2_0, sz_vb_3, f2_0⟩
theorem ef33z32 (m : MethodId) (n : Int32) : entryFrame m #[(.int 32), (.int n)] 2 = mkF m 0 #[oi 32, oi n] [] := by first | (simp [entryFrame, mkF, argsToLocals, Value.category]; done) | rfl
def Q33z32 (Z : State) (n : Int32) (h0 : Heap) (n0 : Nat) (v : Option Value) (h : Heap) (L : List Loc) : Prop := v = some (.int n) ∧ Fr n0 L ∧ h = h0
theorem rm33z32 (l : Launch) (Z : State) (a0 : Array Value) (hw : ∀ d ∈ tables_1, d.before a0 Z = true) (ws : List Jvm.Cond) (n : Int32) (h0 : Heap) (n0 : Nat) (Z0 : n0 ≤ h0.size) (hn : n < (32 : Int32)) :
    MetFree l oM44 (head1 (Jvm.Cond.code oM44 zc44 2 (some .int) :: ws) oR0) (fun a U => a = #[(.int 32), (.int n)] ∧ Z.Warmed39 U.vm ∧ U.heap = h0) (fun _ _ _ _ _ => True) (fun _ U o U' => ∃ v L, o = .returned v ∧ Q33z32 Z n h0 n0 v U'.heap L ∧ FrameEnd U o U' L oR0.cells oR0.slots) := by
  refine MetFree.of_bodySF (Jvm.Free.JP.mathPlain rfl (by decide +kernel)) hisR ?_
  intro p e s m args below meth c s₁ Bd hml0 hP hK
  obtain ⟨rfl, hZ, hh⟩ := hP
  have hx := Bd.exec
  have hby := Bd.bytes
  have hml : c.maxLocals = 2 := hml0
  have hown : s.vm.findClass "java/lang/Math" = some m.cls := findClass_of_methodNamed Bd.named
  have X0 : Stand p l e oR0 s m #[(.int 32), (.int n)] below meth c s₁ [] 0 0 := Stand.of_body Bd
  have e0 : s₁.heap = h0 := by rw [← hh, Bd.state]; rfl
  have N0 := Fr.nil n0
  have pre0 := own_pre (p := p) (e := e) (below := below) (s₁ := s₁) (ef33z32 m n)
  obtain ⟨fsZ, hrZ, hrun, hended, hW, hsame⟩ := X0.leave (v := some (.int n)) (fun h => by rw [Bd.returns] at h; cases h)
  refine ⟨_, _, pre0 _ ?_, hrun, hended, _, _, rfl, ?_, ⟨_, rfl⟩, hW, hsame.mono (by decide) (by decide)⟩
  · show Steps _ _ _ (s₁.setTop (mkF m 0 #[oi 32, oi n] [])) _
    refine XS.iloadN X0.here hx rfl (hb hby d33_0) rfl  ?_
    refine XS.iloadN X0.here hx rfl (hb hby d33_1) rfl  ?_
    refine XS.icmpYes X0.here hx rfl (pc0 := 2) (pc' := 9) rfl (hb hby d33_2) rfl (tlt hn).2.2.1 (by decide) (by decide) ?_
    refine XS.iloadN X0.here hx rfl (hb hby d33_9) rfl  ?_
    show Steps _ _ _ (s₁.setTop (mkF m 10 #[oi 32, oi n] [(.int n)])) _
    exact retI X0 hx Bd.returns (hb hby d33_10) hrZ
  · show Q33z32 Z n h0 n0 _ s₁.heap _
    rw [e0]
    exact ⟨rfl, N0, rfl⟩
theorem ef31z32 (m : MethodId) (va : Addr) (n : Int32) : entryFrame m #[(.ref va), (.int 0), (.int n)] 5 = mkF m 0 #[oa va, oi 0, oi n, .unset, .unset] [] := by first | (simp [entryFrame, mkF, argsToLocals, Value.category]; done) | rfl
def Q31z32 (Z : State) (va : Addr) (n : Int32) (kv : ClassId) (xs : List Value) (h0 : Heap) (n0 : Nat) (v : Option Value) (h : Heap) (L : List Loc) : Prop := ∃ (vb : Addr) (kb : ClassId), v = some (.ref vb) ∧ Fr n0 L ∧ Keep h0 h [] ∧ n0 ≤ vb ∧ h0.size ≤ vb ∧ Arv Z h vb kb .byte n xs (.int 0)
theorem rm31z32 (l : Launch) (Z : State) (a0 : Array Value) (hw : ∀ d ∈ tables_1, d.before a0 Z = true) (ws : List Jvm.Cond) (va : Addr) (n : Int32) (kv : ClassId) (xs : List Value) (h0 : Heap) (n0 : Nat) (Z0 : n0 ≤ h0.size) (Vx : Arv Z h0 va kv .byte (32 : Int32) xs (.int 0)) (hxl : n.toNatClampNeg = xs.length) (hn0 : ¬ (n < (0 : Int32))) (hnz : n < (32 : Int32)) :
    MetFree l oM45 (head1 (Jvm.Cond.code oM45 zc45 5 (some (.array .byte)) :: ws) oR36) (fun a U => a = #[(.ref va), (.int 0), (.int n)] ∧ Z.Warmed39 U.vm ∧ U.heap = h0) (fun _ _ _ _ _ => True) (fun _ U o U' => ∃ v L, o = .returned v ∧ Q31z32 Z va n kv xs h0 n0 v U'.heap L ∧ FrameEnd U o U' L oR36.cells oR36.slots) := by
  refine MetFree.of_bodySF (plainFor_of_name pn34) hisR ?_
  intro p e s m args below meth c s₁ Bd hml0 hP hK
  obtain ⟨rfl, hZ, hh⟩ := hP
  have hx := Bd.exec
  have hby := Bd.bytes
  have hml : c.maxLocals = 5 := hml0
  have hown : s.vm.findClass "java/util/Arrays" = some m.cls := findClass_of_methodNamed Bd.named
  have X0 : Stand p l e oR36 s m #[(.ref va), (.int 0), (.int n)] below meth c s₁ [] 0 0 := Stand.of_body Bd
  have e0 : s₁.heap = h0 := by rw [← hh, Bd.state]; rfl
  have N0 := Fr.nil n0
  have pre0 := own_pre (p := p) (e := e) (below := below) (s₁ := s₁) (ef31z32 m va n)
  obtain ⟨_, _, ⟨T1, L1, k1, n1⟩, -, X1, ⟨Lc1, hQ1, l1, y1, z1⟩, st1⟩ := Jvm.LawKit.callS X0 hx (y := oM43) hown (mvT hZ (ow hw 172 rfl)) (mvT hZ (ow hw 173 rfl)) (mvT hZ (ow hw 167 rfl)) (mvT hZ (ow hw 174 rfl)) (by decide) (backOf (W := 0) (rm32 l Z a0 hw [] n h0 n0 Z0 hn0) hZ (ow hw 174 rfl) (ow hw 167 rfl) (by decide) (by decide)) (g := (mkF m 2 #[oa va, oi 0, oi n, .unset, .unset] [(.int n), (.int 0)])) rfl (by rw [hml]; rfl) (argsL := [(.int 0), (.int n)]) (rest := []) (lenOf pd8 rfl) rfl (Nat.le_of_eq rfl) (hb hby d31_2) (fun _ _ => ⟨rfl, e0, (by decide : 0 + 0 ≤ _), (by decide : 0 + 0 ≤ _)⟩)
  dsimp only [Pt.U, Pt.locs, Pt.cells, Pt.slots] at X1 l1 y1 z1 st1 hQ1
  subst l1 y1 z1
  obtain ⟨rfl, N1q, e1⟩ := hQ1
  have N1 := Fr.app N0 N1q
  obtain ⟨T2, h2, k2, X2, e2, E2, A2, st2⟩ := newP X1 hx hZ (ow hw 15 rfl) e1 (g := (mkF m 10 #[oa va, oi 0, oi n, oi n, .unset] [(.int n)])) rfl (hb hby d31_10) rfl hn0 (cap := 32) (own_le hnz) (by decide) (by decide) (by decide)
  obtain ⟨b2, g2⟩ : ∃ z, z = h0.size := ⟨_, rfl⟩
  rw [← g2] at A2 st2
  have ne3 := own_nb Vx.lt g2
  have gn_b2 : n0 ≤ b2 := Nat.le_trans Z0 (Nat.le_of_eq g2.symm)
  have sz_b2 : h0.size ≤ b2 := Nat.le_trans (Keep.refl h0 []).1 (Nat.le_of_eq g2.symm)
  have Z4 : n0 ≤ h2.size := Nat.le_trans Z0 E2.1
  have K5 : Keep h0 h2 [] := (Keep.refl h0 []).ext E2
  have V2 : Arv Z h2 b2 k2 .byte n [] (.int 0) := Arv.new A2 hn0
  have fa6 := (Vx.ext E2)
  obtain ⟨c7, Arc7, -, Sc7, Mc7, -, -⟩ := id fa6
  obtain ⟨_, _, ⟨T8, L8, k8, n8⟩, -, X8, ⟨Lc8, hQ8, l8, y8, z8⟩, st8⟩ := Jvm.LawKit.callS X2 hx (y := oM44) hown (mvT hZ (ow hw 175 rfl)) (mvT hZ (ow hw 176 rfl)) (mvT hZ (ow hw 177 rfl)) (mvT hZ (ow hw 178 rfl)) (by decide) (backOf (W := 4) (rm33z32 l Z a0 hw [] n h2 n0 Z4 hnz) hZ (ow hw 178 rfl) (ow hw 177 rfl) (by decide) (by decide)) (g := (mkF m 24 #[oa va, oi 0, oi n, oi n, oa b2] [(.int n), (.int 32), (.int 0), (.ref b2), (.int 0), (.ref va)])) rfl (by rw [hml]; rfl) (argsL := [(.int 32), (.int n)]) (rest := [(.int 0), (.ref b2), (.int 0), (.ref va)]) (lenOf pd35 rfl) rfl (Nat.le_of_eq rfl) (hb hby d31_24) (fun _ _ => ⟨rfl, e2, (by decide : 1 + 0 ≤ _), (by decide : 32 + 0 ≤ _)⟩)
  dsimp only [Pt.U, Pt.locs, Pt.cells, Pt.slots] at X8 l8 y8 z8 st8 hQ8
  subst l8 y8 z8
  obtain ⟨rfl, N8q, e8⟩ := hQ8
  have N8 := Fr.app N1 N8q
  have pd9 := Arv.pad V2 (pad_rep [] (.int 0) xs.length)
  have dp9 := own_dpc hxl hn0 hnz
  obtain ⟨T9, h9, L9, X9, e9, N9, K9, V9, st9⟩ := cpA X8 hx hZ hown (ow hw 179 rfl) (ow hw 131 rfl) (ow hw 129 rfl) (ow hw 130 rfl) e8 fa6 pd9 (us := xs) (Or.inl ⟨rfl, rfl⟩) (by decide) dp9.1 dp9.2.1 dp9.2.2.1 dp9.2.2.2.1 (own_rg _ _ _ dp9.2.2.2.2.1) (by rw [dp9.2.2.2.2.1, dp9.2.2.2.2.2]; simp) N8 gn_b2 (g := (mkF m 27 #[oa va, oi 0, oi n, oi n, oa b2] [(.int n), (.int 0), (.ref b2), (.int 0), (.ref va)])) rfl (by rw [hml]; rfl) rfl (hb hby d31_27) (by decide) (W := 0) (Nat.le_of_eq rfl) (by decide)
  have Z10 : n0 ≤ h9.size := Nat.le_trans Z4 K9.1
  have K11 : Keep h0 h9 [] := K5.trans K9 (allS (P := fun x => x ∈ _ ∨ _) (Or.inr sz_b2) all0)
  have U9 : Arv Z h9 b2 k2 .byte n xs (.int 0) := by have q := V9; rw [dp9.2.2.2.2.1, dp9.2.2.2.2.2, own_cp] at q; exact q
  obtain ⟨fsZ, hrZ, hrun, hended, hW, hsame⟩ := X9.leave (v := some (.ref b2)) (fun h => by rw [Bd.returns] at h; cases h)
  refine ⟨_, _, pre0 _ ?_, hrun, hended, _, _, rfl, ?_, ⟨_, rfl⟩, hW, hsame.mono (by decide) (by decide)⟩
  · show Steps _ _ _ (s₁.setTop (mkF m 0 #[oa va, oi 0, oi n, .unset, .unset] [])) _
    refine XS.iloadN X0.here hx rfl (hb hby d31_0) rfl  ?_
    refine XS.iloadN X0.here hx rfl (hb hby d31_1) rfl  ?_
    refine st1 _ ?_
    refine XS.iloadN X1.here hx rfl (hb hby d31_5) rfl  ?_
    refine XS.iloadN X1.here hx rfl (hb hby d31_6) rfl  ?_
    refine XS.isub X1.here hx rfl (hb hby d31_7) rfl ?_
    show Steps _ _ _ (T1.setTop (mkF m 8 #[oa va, oi 0, oi n, .unset, .unset] [(.int (n - (0 : Int32)))])) _
    rw [show (n - (0 : Int32)) = n from own_sub0 n]
    show Steps _ _ _ (T1.setTop (mkF m 8 #[oa va, oi 0, oi n, .unset, .unset] [(.int n)])) _
    refine XS.istoreN X1.here hx rfl (hb hby d31_8) rfl (l' := #[oa va, oi 0, oi n, oi n, .unset]) rfl ?_
    refine XS.iloadN X1.here hx rfl (hb hby d31_9) rfl  ?_
    refine st2 _ ?_
    refine XS.astore X2.here hx rfl (hb hby d31_12) rfl rfl (l' := #[oa va, oi 0, oi n, oi n, oa b2]) rfl ?_
    refine XS.aloadN X2.here hx rfl (hb hby d31_14) rfl rfl ?_
    refine XS.iloadN X2.here hx rfl (hb hby d31_15) rfl  ?_
    refine XS.aload X2.here hx rfl (hb hby d31_16) rfl rfl ?_
    refine XS.iconst X2.here hx rfl (hb hby d31_18) ?_
    show Steps _ _ _ (T2.setTop (mkF m 19 #[oa va, oi 0, oi n, oi n, oa b2] [(.int 0), (.ref b2), (.int 0), (.ref va)])) _
    refine XS.aloadN X2.here hx rfl (hb hby d31_19) rfl rfl ?_
    show Steps _ _ _ (T2.setTop (mkF m 20 #[oa va, oi 0, oi n, oi n, oa b2] [(.ref va), (.int 0), (.ref b2), (.int 0), (.ref va)])) _
    refine X2.arraylength hx (by rw [e2]; exact Arc7.1) (State.isArrayOf_alike hZ.alike Arc7.2.1) (g := (mkF m 20 #[oa va, oi 0, oi n, oi n, oa b2] [(.ref va), (.int 0), (.ref b2), (.int 0), (.ref va)])) rfl rfl (hb hby d31_20) _ ?_
    rw [len_of Sc7 Mc7]
    show Steps _ _ _ (T2.setTop (mkF m 21 #[oa va, oi 0, oi n, oi n, oa b2] [(.int 32), (.int 0), (.ref b2), (.int 0), (.ref va)])) _
    refine XS.iloadN X2.here hx rfl (hb hby d31_21) rfl  ?_
    refine XS.isub X2.here hx rfl (hb hby d31_22) rfl ?_
    show Steps _ _ _ (T2.setTop (mkF m 23 #[oa va, oi 0, oi n, oi n, oa b2] [(.int ((32 : Int32) - (0 : Int32))), (.int 0), (.ref b2), (.int 0), (.ref va)])) _
    rw [show ((32 : Int32) - (0 : Int32)) = (32 : Int32) from by decide]
    show Steps _ _ _ (T2.setTop (mkF m 23 #[oa va, oi 0, oi n, oi n, oa b2] [(.int 32), (.int 0), (.ref b2), (.int 0), (.ref va)])) _
    refine XS.iloadN X2.here hx rfl (hb hby d31_23) rfl  ?_
    refine st8 _ ?_
    refine st9 _ ?_
    refine XS.aload X9.here hx rfl (hb hby d31_30) rfl rfl ?_
    show Steps _ _ _ (T9.setTop (mkF m 32 #[oa va, oi 0, oi n, oi n, oa b2] [(.ref b2)])) _
    jvm_step X9.here [X9.here.top, hx, (hb hby d31_32), X9.method', Bd.returns, Value.isRef, FieldType.isReference]
    first | (intro acts; rw [hrZ _ acts rfl rfl rfl]) | rw [hrZ _ _ rfl rfl rfl]
    exact Steps.refl _
  · show Q31z32 Z va n kv xs h0 n0 _ T9.heap _
    rw [e9]
    exact ⟨b2, k2, rfl, N9, K11, gn_b2, sz_b2, U9⟩
theorem ef30z32 (m : MethodId) (va : Addr) (n : Int32) : entryFrame m #[(.ref va), (.int 0), (.int n)] 3 = mkF m 0 #[oa va, oi 0, oi n] [] := by first | (simp [entryFrame, mkF, argsToLocals, Value.category]; done) | rfl
def Q30z32 (Z : State) (va : Addr) (n : Int32) (kv : ClassId) (xs : List Value) (h0 : Heap) (n0 : Nat) (v : Option Value) (h : Heap) (L : List Loc) : Prop := ∃ (vb : Addr) (kb : ClassId), v = some (.ref vb) ∧ Fr n0 L ∧ Keep h0 h [] ∧ n0 ≤ vb ∧ h0.size ≤ vb ∧ Arv Z h vb kb .byte n xs (.int 0)
theorem rm30z32 (l : Launch) (Z : State) (a0 : Array Value) (hw : ∀ d ∈ tables_1, d.before a0 Z = true) (ws : List Jvm.Cond) (va : Addr) (n : Int32) (kv : ClassId) (xs : List Value) (h0 : Heap) (n0 : Nat) (Z0 : n0 ≤ h0.size) (Vx : Arv Z h0 va kv .byte (32 : Int32) xs (.int 0)) (hxl : n.toNatClampNeg = xs.length) (hn0 : ¬ (n < (0 : Int32))) (hnz : n < (32 : Int32)) :
    MetFree l oM46 (head1 (Jvm.Cond.code oM46 zc46 3 (some (.array .byte)) :: ws) oR37) (fun a U => a = #[(.ref va), (.int 0), (.int n)] ∧ Z.Warmed39 U.vm ∧ U.heap = h0) (fun _ _ _ _ _ => True) (fun _ U o U' => ∃ v L, o = .returned v ∧ Q30z32 Z va n kv xs h0 n0 v U'.heap L ∧ FrameEnd U o U' L oR37.cells oR37.slots) := by
  refine MetFree.of_bodySF (plainFor_of_name pn34) hisR ?_
  intro p e s m args below meth c s₁ Bd hml0 hP hK
  obtain ⟨rfl, hZ, hh⟩ := hP
  have hx := Bd.exec
  have hby := Bd.bytes
  have hml : c.maxLocals = 3 := hml0
  have hown : s.vm.findClass "java/util/Arrays" = some m.cls := findClass_of_methodNamed Bd.named
  have X0 : Stand p l e oR37 s m #[(.ref va), (.int 0), (.int n)] below meth c s₁ [] 0 0 := Stand.of_body Bd
  have e0 : s₁.heap = h0 := by rw [← hh, Bd.state]; rfl
  have N0 := Fr.nil n0
  have pre0 := own_pre (p := p) (e := e) (below := below) (s₁ := s₁) (ef30z32 m va n)
  obtain ⟨c1, Arc1, -, Sc1, Mc1, -, -⟩ := id Vx
  obtain ⟨_, _, ⟨T2, L2, k2, n2⟩, -, X2, ⟨Lc2, hQ2, l2, y2, z2⟩, st2⟩ := Jvm.LawKit.callS X0 hx (y := oM45) hown (mvT hZ (ow hw 169 rfl)) (mvT hZ (ow hw 170 rfl)) (mvT hZ (ow hw 167 rfl)) (mvT hZ (ow hw 171 rfl)) (by decide) (backOf (W := 0) (rm31z32 l Z a0 hw [] va n kv xs h0 n0 Z0 Vx hxl hn0 hnz) hZ (ow hw 171 rfl) (ow hw 167 rfl) (by decide) (by decide)) (g := (mkF m 13 #[oa va, oi 0, oi n] [(.int n), (.int 0), (.ref va)])) rfl (by rw [hml]; rfl) (argsL := [(.ref va), (.int 0), (.int n)]) (rest := []) (lenOf pd36 rfl) rfl (Nat.le_of_eq rfl) (hb hby d30_13) (fun _ _ => ⟨rfl, e0, (by decide : 0 + 1 ≤ _), (by decide : 0 + 32 ≤ _)⟩)
  dsimp only [Pt.U, Pt.locs, Pt.cells, Pt.slots] at X2 l2 y2 z2 st2 hQ2
  subst l2 y2 z2
  obtain ⟨vb_3, kb_4, rfl, N2q, K2, u2_0, u2_1, f2_0⟩ := hQ2
  have N2 := Fr.app N0 N2q
  have Z5 : n0 ≤ T2.heap.size := Nat.le_trans Z0 K2.1
  have K6 : Keep h0 T2.heap [] := (Keep.refl h0 []).trans K2 all0
  have ne7 := own_nc Vx.lt u2_1
  have sz_vb_3 : h0.size ≤ vb_3 := Nat.le_trans (Keep.refl h0 []).1 u2_1
  obtain ⟨fsZ, hrZ, hrun, hended, hW, hsame⟩ := X2.leave (v := some (.ref vb_3)) (fun h => by rw [Bd.returns] at h; cases h)
  refine ⟨_, _, pre0 _ ?_, hrun, hended, _, _, rfl, ?_, ⟨_, rfl⟩, hW, hsame.mono (by decide) (by decide)⟩
  · show Steps _ _ _ (s₁.setTop (mkF m 0 #[oa va, oi 0, oi n] [])) _
    refine XS.iloadN X0.here hx rfl (hb hby d30_0) rfl  ?_
    refine XS.ifNo X0.here hx rfl (hb hby d30_1) rfl ((if0 _ _).trans (teq (by decide)).2) ?_
    refine XS.iloadN X0.here hx rfl (hb hby d30_4) rfl  ?_
    refine XS.aloadN X0.here hx rfl (hb hby d30_5) rfl rfl ?_
    show Steps _ _ _ (s₁.setTop (mkF m 6 #[oa va, oi 0, oi n] [(.ref va), (.int n)])) _
    refine X0.arraylength hx (by rw [e0]; exact Arc1.1) (State.isArrayOf_alike hZ.alike Arc1.2.1) (g := (mkF m 6 #[oa va, oi 0, oi n] [(.ref va), (.int n)])) rfl rfl (hb hby d30_6) _ ?_
    rw [len_of Sc1 Mc1]
    show Steps _ _ _ (s₁.setTop (mkF m 7 #[oa va, oi 0, oi n] [(.int 32), (.int n)])) _
    refine XS.icmpNo X0.here hx rfl (hb hby d30_7) rfl (feq (own_nel hnz)).1 ?_
    refine XS.aloadN X0.here hx rfl (hb hby d30_10) rfl rfl ?_
    refine XS.iloadN X0.here hx rfl (hb hby d30_11) rfl  ?_
    refine XS.iloadN X0.here hx rfl (hb hby d30_12) rfl  ?_
    refine st2 _ ?_
    show Steps _ _ _ (T2.setTop (mkF m 16 #[oa va, oi 0, oi n] [(.ref vb_3)])) _
    jvm_step X2.here [X2.here.top, hx, (hb hby d30_16), X2.method', Bd.returns, Value.isRef, FieldType.isReference]
    first | (intro acts; rw [hrZ _ acts rfl rfl rfl]) | rw [hrZ _ _ rfl rfl rfl]
    exact Steps.refl _
  · show Q30z32 Z va n kv xs h0 n0 _ T2.heap _
    exact ⟨vb_3, kb_4, rfl, N2, K6, u2_0, sz_vb_3, f2_0⟩
theorem d25_0 : decode zc47 0 = .ok (.aload_n 0, 1) := by decide +kernel
theorem d25_1 : decode zc47 1 = .ok (.invokespecial 1, 3) := by decide +kernel
theorem d25_4 : decode zc47 4 = .ok (.aload_n 1, 1) := by decide +kernel
theorem d25_5 : decode zc47 5 = .ok (.invokevirtual 552, 3) := by decide +kernel
theorem pd37 : parseMethodDescriptor "()[B" = some ⟨[], some (.array .byte)⟩ := by decide +kernel
theorem d25_8 : decode zc47 8 = .ok (.astore_n 3, 1) := by decide +kernel
theorem d25_9 : decode zc47 9 = .ok (.aload_n 1, 1) := by decide +kernel
theorem d25_10 : decode zc47 10 = .ok (.invokevirtual 549, 3) := by decide +kernel
theorem d25_13 : decode zc47 13 = .ok (.istore 4, 2) := by decide +kernel
theorem d25_15 : decode zc47 15 = .ok (.aload_n 1, 1) := by decide +kernel
theorem d25_16 : decode zc47 16 = .ok (.invokevirtual 1047, 3) := by decide +kernel
theorem d25_19 : decode zc47 19 = .ok (.ifCond .eq 22, 3) := by decide +kernel
theorem d25_22 : decode zc47 22 = .ok (.aload_n 0, 1) := by decide +kernel
theorem d25_23 : decode zc47 23 = .ok (.iconst 0, 1) := by decide +kernel
theorem d25_24 : decode zc47 24 = .ok (.putfield 15, 3) := by decide +kernel
theorem d25_27 : decode zc47 27 = .ok (.aload_n 0, 1) := by decide +kernel
theorem d25_28 : decode zc47 28 = .ok (.aload_n 3, 1) := by decide +kernel
theorem d25_29 : decode zc47 29 = .ok (.iconst 0, 1) := by decide +kernel
theorem d25_30 : decode zc47 30 = .ok (.iload 4, 2) := by decide +kernel
theorem d25_32 : decode zc47 32 = .ok (.invokestatic 54, 3) := by decide +kernel
theorem d25_35 : decode zc47 35 = .ok (.putfield 9, 3) := by decide +kernel
theorem d25_38 : decode zc47 38 = .ok (.goto 59, 3) := by decide +kernel
theorem d25_97 : decode zc47 97 = .ok (.return_, 1) := by decide +kernel
theorem d25_41 : decode zc47 41 = .ok (.getstatic 38, 3) := by decide +kernel
theorem d25_44 : decode zc47 44 = .ok (.ifCond .eq 35, 3) := by decide +kernel
theorem d25_47 : decode zc47 47 = .ok (.aload_n 1, 1) := by decide +kernel
theorem d25_48 : decode zc47 48 = .ok (.getfield 1048, 3) := by decide +kernel
theorem d25_51 : decode zc47 51 = .ok (.ifCond .eq 28, 3) := by decide +kernel
theorem d25_79 : decode zc47 79 = .ok (.aload_n 0, 1) := by decide +kernel
theorem d25_80 : decode zc47 80 = .ok (.iconst 1, 1) := by decide +kernel
theorem d25_81 : decode zc47 81 = .ok (.putfield 15, 3) := by decide +kernel
theorem d25_84 : decode zc47 84 = .ok (.aload_n 0, 1) := by decide +kernel
theorem d25_85 : decode zc47 85 = .ok (.aload_n 3, 1) := by decide +kernel
theorem d25_86 : decode zc47 86 = .ok (.iconst 0, 1) := by decide +kernel
theorem d25_87 : decode zc47 87 = .ok (.iload 4, 2) := by decide +kernel
theorem d25_89 : decode zc47 89 = .ok (.iconst 1, 1) := by decide +kernel
theorem d25_90 : decode zc47 90 = .ok (.ishl, 1) := by decide +kernel
theorem d25_91 : decode zc47 91 = .ok (.invokestatic 54, 3) := by decide +kernel
theorem d25_94 : decode zc47 94 = .ok (.putfield 9, 3) := by decide +kernel
theorem ef25 (m : MethodId) (sa : Addr) (b : Addr) : entryFrame m #[(.ref sa), (.ref b), .null] 5 = mkF m 0 #[oa sa, oa b, .val .null, .unset, .unset] [] := by first | (simp [entryFrame, mkF, argsToLocals, Value.category]; done) | rfl
def Q25 (Z : State) (sa : Addr) (b : Addr) (w1 : Value) (w2 : Value) (va : Addr) (kv : ClassId) (bc : Int32) (nv : Int32) (xs : List Value) (cn : Int32) (us : List Int32) (cs : Int32) (h0 : Heap) (n0 : Nat) (v : Option Value) (h : Heap) (L : List Loc) : Prop := ∃ (vb : Addr) (kb : ClassId) (kc : Int32) (nb : Int32) (vs : List Value), v = none ∧ Fr n0 L ∧ Keep h0 h [sa] ∧ n0 ≤ vb ∧ h0.size ≤ vb ∧ own_enc us kc nb vs ∧ Exa Z h sa oS ∧ Fld Z h sa oS "coder" "B" (.int kc) ∧ Fld Z h sa oS "value" "[B" (.ref vb) ∧ Arv Z h vb kb .byte nb vs (.int 0)
theorem rm25 (l : Launch) (Z : State) (a0 : Array Value) (hw : ∀ d ∈ tables_1, d.before a0 Z = true) (ws : List Jvm.Cond) (sa : Addr) (b : Addr) (w1 : Value) (w2 : Value) (va : Addr) (kv : ClassId) (bc : Int32) (nv : Int32) (xs : List Value) (cn : Int32) (us : List Int32) (cs : Int32) (h0 : Heap) (n0 : Nat) (Z0 : n0 ≤ h0.size) (Es : Exa Z h0 sa oS) (Sc : Fld Z h0 sa oS "coder" "B" w1) (Sv : Fld Z h0 sa oS "value" "[B" w2) (gs : n0 ≤ sa) (F0 : Exa Z h0 b oB) (F1 : Fld Z h0 b oA "value" "[B" (.ref va)) (F2 : Fld Z h0 b oA "coder" "B" (.int bc)) (F3 : Fld Z h0 b oA "count" "I" (.int cn)) (F4 : Fld Z h0 b oA "maybeLatin1" "Z" (.int 0)) (F5 : Arv Z h0 va kv .byte nv xs (.int 0)) (nsb : sa ≠ b) (nsv : sa ≠ va) (hsb : own_sbe us bc nv xs) (hcn : cn.toInt = us.length) (hlt : us.length < 16) (Cs : Sta Z Z.heap oS "COMPACT_STRINGS" "Z" (.int cs)) (hcs : ¬ (cs = (0 : Int32))) (Ox : Old Z n0 h0) :
    MetFree l oM47 (head1 (Jvm.Cond.code oM47 zc47 5 none :: ws) oR38) (fun a U => a = #[(.ref sa), (.ref b), .null] ∧ Z.Warmed39 U.vm ∧ U.heap = h0) (fun _ _ _ _ _ => True) (fun _ U o U' => ∃ v L, o = .returned v ∧ Q25 Z sa b w1 w2 va kv bc nv xs cn us cs h0 n0 v U'.heap L ∧ FrameEnd U o U' L oR38.cells oR38.slots) := by
  refine MetFree.of_bodySF (plainFor_of_name pn3) hisR ?_
  intro p e s m args below meth c s₁ Bd hml0 hP hK
  obtain ⟨rfl, hZ, hh⟩ := hP
  have hx := Bd.exec
  have hby := Bd.bytes
  have hml : c.maxLocals = 5 := hml0
  have hown : s.vm.findClass oS = some m.cls := findClass_of_methodNamed Bd.named
  have hnm := (name_of_methodNamed Bd.named Bd.method).1
  have X0 : Stand p l e oR38 s m #[(.ref sa), (.ref b), .null] below meth c s₁ [] 0 0 := Stand.of_body Bd
  have e0 : s₁.heap = h0 := by rw [← hh, Bd.state]; rfl
  have N0 := Fr.nil n0
  have pre0 := own_pre (p := p) (e := e) (below := below) (s₁ := s₁) (ef25 m sa b)
  obtain ⟨hcu, hlu, horu⟩ := hsb
  rcases horu with ⟨hlau, hbk, hnv, hxs⟩ | ⟨hlau, hbk, hnv, hxs⟩
  ·  -- builder 0
    have Bk : Fld Z h0 b oA "coder" "B" (.int 0) := by have q := F2; rw [hbk] at q; exact q
    have Bx : Arv Z h0 va kv .byte (16 : Int32) (own_lb us) (.int 0) := by have q := F5; rw [hnv, hxs] at q; exact q
    obtain ⟨T1, X1, e1, st1⟩ := initO X0 hx hZ hown (ow hw 20 rfl) (ow hw 21 rfl) (ow hw 22 rfl) e0 (g := (mkF m 1 #[oa sa, oa b, .val .null, .unset, .unset] [(.ref sa)])) rfl (by rw [hml]; rfl) rfl (hb hby d25_1) (by decide) (W := 0) (Nat.le_of_eq rfl) (by decide)
    obtain ⟨cq2, kq2, q2a, q2b, q2c⟩ := isOf hZ e1 F0
    obtain ⟨_, _, ⟨T2, L2, k2, n2⟩, -, X2, ⟨Lc2, hQ2, l2, y2, z2⟩, st2⟩ := X1.virtualBack hx (y := oM40) (z := oM40) hown (mvT hZ (ow hw 147 rfl)) (mvT hZ (ow hw 148 rfl)) (notFace_of_selects (args := #[]) (mvT hZ (ow hw 150 rfl))) (mvT hZ (ow hw 150 rfl)) (mvT hZ (ow hw 149 rfl)) (by decide) (backOf (W := 0) (rm26 l Z a0 hw [] b va h0 n0 Z0 F1) hZ (ow hw 151 rfl) (ow hw 77 rfl) (by decide) (by decide)) q2a q2c (g := (mkF m 5 #[oa sa, oa b, .val .null, .unset, .unset] [(.ref b)])) rfl (by rw [hml]; rfl) (Steps.refl _) (argsL := []) (rest := []) (lenOf pd37 rfl) rfl (Nat.le_of_eq rfl) (hb hby d25_5) (fun _ _ => ⟨rfl, e1, (by decide : 0 + 0 ≤ _), (by decide : 0 + 0 ≤ _)⟩)
    dsimp only [Pt.U, Pt.locs, Pt.cells, Pt.slots] at X2 l2 y2 z2 st2 hQ2
    subst l2 y2 z2
    obtain ⟨rfl, N2q, e2⟩ := hQ2
    have N2 := Fr.app N0 N2q
    obtain ⟨cq3, kq3, q3a, q3b, q3c⟩ := isOf hZ e2 F0
    obtain ⟨_, _, ⟨T3, L3, k3, n3⟩, -, X3, ⟨Lc3, hQ3, l3, y3, z3⟩, st3⟩ := X2.virtualBack hx (y := oM41) (z := oM42) hown (mvT hZ (ow hw 152 rfl)) (mvT hZ (ow hw 153 rfl)) (own_nf (mvT hZ (ow hw 110 rfl) (args := #[])) rfl) (mvT hZ (ow hw 155 rfl)) (mvT hZ (ow hw 156 rfl)) (by decide) (backOf (W := 0) (rm27 l Z a0 hw [] b cn h0 n0 Z0 F0 F3) hZ (ow hw 157 rfl) (ow hw 69 rfl) (by decide) (by decide)) q3a q3c (g := (mkF m 10 #[oa sa, oa b, .val .null, oa va, .unset] [(.ref b)])) rfl (by rw [hml]; rfl) (Steps.refl _) (argsL := []) (rest := []) (lenOf pd31 rfl) rfl (Nat.le_of_eq rfl) (hb hby d25_10) (fun _ _ => ⟨rfl, e2, (by decide : 0 + 0 ≤ _), (by decide : 0 + 0 ≤ _)⟩)
    dsimp only [Pt.U, Pt.locs, Pt.cells, Pt.slots] at X3 l3 y3 z3 st3 hQ3
    subst l3 y3 z3
    obtain ⟨rfl, N3q, e3⟩ := hQ3
    have N3 := Fr.app N2 N3q
    obtain ⟨cq4, kq4, q4a, q4b, q4c⟩ := isOf hZ e3 F0
    obtain ⟨_, _, ⟨T4, L4, k4, n4⟩, -, X4, ⟨Lc4, hQ4, l4, y4, z4⟩, st4⟩ := X3.virtualBack hx (y := oM30) (z := oM30) hown (mvT hZ (ow hw 160 rfl)) (mvT hZ (ow hw 161 rfl)) (notFace_of_selects (args := #[]) (mvT hZ (ow hw 163 rfl))) (mvT hZ (ow hw 163 rfl)) (mvT hZ (ow hw 162 rfl)) (by decide) (backOf (W := 0) (rm29k0 l Z a0 hw [] b cs h0 n0 Z0 Bk Cs hcs Ox) hZ (ow hw 164 rfl) (ow hw 77 rfl) (by decide) (by decide)) q4a q4c (g := (mkF m 16 #[oa sa, oa b, .val .null, oa va, oi cn] [(.ref b)])) rfl (by rw [hml]; rfl) (Steps.refl _) (argsL := []) (rest := []) (lenOf pd12 rfl) rfl (Nat.le_of_eq rfl) (hb hby d25_16) (fun _ _ => ⟨rfl, e3, (by decide : 0 + 0 ≤ _), (by decide : 0 + 0 ≤ _)⟩)
    dsimp only [Pt.U, Pt.locs, Pt.cells, Pt.slots] at X4 l4 y4 z4 st4 hQ4
    subst l4 y4 z4
    obtain ⟨rfl, N4q, e4⟩ := hQ4
    have N4 := Fr.app N3 N4q
    obtain ⟨T5, h5, X5, e5, W5, st5⟩ := putFN X4 hx hZ hown (ow hw 25 rfl) Via.refl e4 Sc Es (Or.inr ⟨(ow hw 26 rfl), rfl, hnm⟩) (ow hw 11 rfl) (ty := .byte) (v' := (.int 0)) (by decide) rfl (by decide) (g := (mkF m 24 #[oa sa, oa b, .val .null, oa va, oi cn] [(.int 0), (.ref sa)])) rfl rfl (hb hby d25_24)
    have fw5 : Fld Z h5 sa oS "coder" "B" (.int 0) := Sc.same W5
    have Z6 : n0 ≤ h5.size := Nat.le_trans Z0 (Nat.le_of_eq W5.size.symm)
    have K7 : Keep h0 h5 [sa] := (Keep.refl h0 [sa]).wr W5 (Or.inl (List.mem_of_getElem? (i := 0) rfl))
    have N5 := Fr.snoc X5 N4 gs
    have fa8 := (Bx.other W5 (Ne.symm nsv))
    obtain ⟨_, _, ⟨T9, L9, k9, n9⟩, -, X9, ⟨Lc9, hQ9, l9, y9, z9⟩, st9⟩ := Jvm.LawKit.callS X5 hx (y := oM46) hown (mvT hZ (ow hw 165 rfl)) (mvT hZ (ow hw 166 rfl)) (mvT hZ (ow hw 167 rfl)) (mvT hZ (ow hw 168 rfl)) (by decide) (backOf (W := 1) (rm30z16 l Z a0 hw [] va cn kv (own_lb us) h5 n0 Z6 fa8 (own_ts0 hcn hlt).2.2 (own_ts0 hcn hlt).1 (own_ts0 hcn hlt).2.1) hZ (ow hw 168 rfl) (ow hw 167 rfl) (by decide) (by decide)) (g := (mkF m 32 #[oa sa, oa b, .val .null, oa va, oi cn] [(.int cn), (.int 0), (.ref va), (.ref sa)])) rfl (by rw [hml]; rfl) (argsL := [(.ref va), (.int 0), (.int cn)]) (rest := [(.ref sa)]) (lenOf pd36 rfl) rfl (Nat.le_of_eq rfl) (hb hby d25_32) (fun _ _ => ⟨rfl, e5, (by decide : 0 + 1 ≤ _), (by decide : 0 + 16 ≤ _)⟩)
    dsimp only [Pt.U, Pt.locs, Pt.cells, Pt.slots] at X9 l9 y9 z9 st9 hQ9
    subst l9 y9 z9
    obtain ⟨vb_10, kb_11, rfl, N9q, K9, u9_0, u9_1, f9_0⟩ := hQ9
    have N9 := Fr.app N5 N9q
    have Z12 : n0 ≤ T9.heap.size := Nat.le_trans Z6 K9.1
    have K13 : Keep h0 T9.heap [sa] := K7.trans K9 all0
    have ne14 := own_nc (Es.wr W5).lt u9_1
    have ne15 := own_nc (F0.wr W5).lt u9_1
    have ne16 := own_nc fa8.lt u9_1
    have sz_vb_10 : h0.size ≤ vb_10 := Nat.le_trans K7.1 u9_1
    have fa17 := ((Sv.other W5 (Or.inr (slot_ne (Or.inr (ow hw 24 rfl)) (Or.inr (ow hw 26 rfl)) (by decide) (t := (.array .byte)) (t' := .byte) (by decide) (by decide)))).keep K9 nin0)
    have fa18 := ((Es.wr W5).keep K9)
    obtain ⟨T19, h19, X19, e19, W19, st19⟩ := putF X9 hx hZ hown (host := "") (Or.inl (ow hw 23 rfl)) Via.refl rfl fa17 fa18 (Or.inr ⟨(ow hw 24 rfl), rfl, hnm⟩) (ow hw 11 rfl) (ty := (.array .byte)) (by decide) rfl rfl (g := (mkF m 35 #[oa sa, oa b, .val .null, oa va, oi cn] [(.ref vb_10), (.ref sa)])) rfl rfl (hb hby d25_35)
    have fw19 : Fld Z h19 sa oS "value" "[B" (.ref vb_10) := fa17.same W19
    have Z20 : n0 ≤ h19.size := Nat.le_trans Z12 (Nat.le_of_eq W19.size.symm)
    have K21 : Keep h0 h19 [sa] := K13.wr W19 (Or.inl (List.mem_of_getElem? (i := 0) rfl))
    have N19 := Fr.snoc X19 N9 gs
    obtain ⟨fsZ, hrZ, hrun, hended, hW, hsame⟩ := X19.leave (v := none) (fun _ => rfl)
    have hqe : own_enc us (0 : Int32) cn (own_lb us) := ⟨hcu, hlu, Or.inl ⟨hlau, rfl, hcn, rfl⟩⟩
    have fa22 := (fa18.wr W19)
    have fa23 := ((fw5.keep K9 nin0).other W19 (Or.inr (slot_ne (Or.inr (ow hw 26 rfl)) (Or.inr (ow hw 24 rfl)) (by decide) (t := .byte) (t' := (.array .byte)) (by decide) (by decide))))
    have fa24 := (f9_0.other W19 (Ne.symm ne14))
    refine ⟨_, _, pre0 _ ?_, hrun, hended, _, _, rfl, ?_, ⟨_, rfl⟩, hW, hsame.mono (by decide) (by decide)⟩
    · show Steps _ _ _ (s₁.setTop (mkF m 0 #[oa sa, oa b, .val .null, .unset, .unset] [])) _
      refine XS.aloadN X0.here hx rfl (hb hby d25_0) rfl rfl ?_
      refine st1 _ ?_
      refine XS.aloadN X1.here hx rfl (hb hby d25_4) rfl rfl ?_
      refine st2.trans ?_
      refine XS.astoreN X2.here hx rfl (hb hby d25_8) rfl rfl (l' := #[oa sa, oa b, .val .null, oa va, .unset]) rfl ?_
      refine XS.aloadN X2.here hx rfl (hb hby d25_9) rfl rfl ?_
      refine st3.trans ?_
      refine XS.istore X3.here hx rfl (hb hby d25_13) rfl (l' := #[oa sa, oa b, .val .null, oa va, oi cn]) rfl ?_
      show Steps _ _ _ (T3.setTop (mkF m 15 #[oa sa, oa b, .val .null, oa va, oi cn] [])) _
      refine XS.aloadN X3.here hx rfl (hb hby d25_15) rfl rfl ?_
      refine st4.trans ?_
      refine XS.ifNo X4.here hx rfl (hb hby d25_19) rfl ((if0 _ _).trans (feq (by decide)).1) ?_
      refine XS.aloadN X4.here hx rfl (hb hby d25_22) rfl rfl ?_
      refine XS.iconst X4.here hx rfl (hb hby d25_23) ?_
      refine st5 _ ?_
      refine XS.aloadN X5.here hx rfl (hb hby d25_27) rfl rfl ?_
      refine XS.aloadN X5.here hx rfl (hb hby d25_28) rfl rfl ?_
      show Steps _ _ _ (T5.setTop (mkF m 29 #[oa sa, oa b, .val .null, oa va, oi cn] [(.ref va), (.ref sa)])) _
      refine XS.iconst X5.here hx rfl (hb hby d25_29) ?_
      refine XS.iload X5.here hx rfl (hb hby d25_30) rfl  ?_
      refine st9 _ ?_
      refine st19 _ ?_
      refine XS.goto X19.here hx rfl (pc0 := 38) (pc' := 97) rfl (hb hby d25_38) (by decide) (by decide) ?_
      show Steps _ _ _ (T19.setTop (mkF m 97 #[oa sa, oa b, .val .null, oa va, oi cn] [])) _
      exact X19.returnOut hx Bd.returns (hb hby d25_97) hrZ
    · show Q25 Z sa b w1 w2 va kv bc nv xs cn us cs h0 n0 _ T19.heap _
      rw [e19]
      exact ⟨vb_10, kb_11, (0 : Int32), cn, (own_lb us), rfl, N19, K21, u9_0, sz_vb_10, (by first | assumption | exact own_b01 _ | decide | omega | exact Or.inl rfl | exact Or.inr (by assumption)), fa22, fa23, fw19, fa24⟩
  ·  -- builder 1
    have Bk : Fld Z h0 b oA "coder" "B" (.int 1) := by have q := F2; rw [hbk] at q; exact q
    have Bx : Arv Z h0 va kv .byte (32 : Int32) (own_ub us) (.int 0) := by have q := F5; rw [hnv, hxs] at q; exact q
    obtain ⟨T25, X25, e25, st25⟩ := initO X0 hx hZ hown (ow hw 20 rfl) (ow hw 21 rfl) (ow hw 22 rfl) e0 (g := (mkF m 1 #[oa sa, oa b, .val .null, .unset, .unset] [(.ref sa)])) rfl (by rw [hml]; rfl) rfl (hb hby d25_1) (by decide) (W := 0) (Nat.le_of_eq rfl) (by decide)
    obtain ⟨cq26, kq26, q26a, q26b, q26c⟩ := isOf hZ e25 F0
    obtain ⟨_, _, ⟨T26, L26, k26, n26⟩, -, X26, ⟨Lc26, hQ26, l26, y26, z26⟩, st26⟩ := X25.virtualBack hx (y := oM40) (z := oM40) hown (mvT hZ (ow hw 147 rfl)) (mvT hZ (ow hw 148 rfl)) (notFace_of_selects (args := #[]) (mvT hZ (ow hw 150 rfl))) (mvT hZ (ow hw 150 rfl)) (mvT hZ (ow hw 149 rfl)) (by decide) (backOf (W := 0) (rm26 l Z a0 hw [] b va h0 n0 Z0 F1) hZ (ow hw 151 rfl) (ow hw 77 rfl) (by decide) (by decide)) q26a q26c (g := (mkF m 5 #[oa sa, oa b, .val .null, .unset, .unset] [(.ref b)])) rfl (by rw [hml]; rfl) (Steps.refl _) (argsL := []) (rest := []) (lenOf pd37 rfl) rfl (Nat.le_of_eq rfl) (hb hby d25_5) (fun _ _ => ⟨rfl, e25, (by decide : 0 + 0 ≤ _), (by decide : 0 + 0 ≤ _)⟩)
    dsimp only [Pt.U, Pt.locs, Pt.cells, Pt.slots] at X26 l26 y26 z26 st26 hQ26
    subst l26 y26 z26
    obtain ⟨rfl, N26q, e26⟩ := hQ26
    have N26 := Fr.app N0 N26q
    obtain ⟨cq27, kq27, q27a, q27b, q27c⟩ := isOf hZ e26 F0
    obtain ⟨_, _, ⟨T27, L27, k27, n27⟩, -, X27, ⟨Lc27, hQ27, l27, y27, z27⟩, st27⟩ := X26.virtualBack hx (y := oM41) (z := oM42) hown (mvT hZ (ow hw 152 rfl)) (mvT hZ (ow hw 153 rfl)) (own_nf (mvT hZ (ow hw 110 rfl) (args := #[])) rfl) (mvT hZ (ow hw 155 rfl)) (mvT hZ (ow hw 156 rfl)) (by decide) (backOf (W := 0) (rm27 l Z a0 hw [] b cn h0 n0 Z0 F0 F3) hZ (ow hw 157 rfl) (ow hw 69 rfl) (by decide) (by decide)) q27a q27c (g := (mkF m 10 #[oa sa, oa b, .val .null, oa va, .unset] [(.ref b)])) rfl (by rw [hml]; rfl) (Steps.refl _) (argsL := []) (rest := []) (lenOf pd31 rfl) rfl (Nat.le_of_eq rfl) (hb hby d25_10) (fun _ _ => ⟨rfl, e26, (by decide : 0 + 0 ≤ _), (by decide : 0 + 0 ≤ _)⟩)
    dsimp only [Pt.U, Pt.locs, Pt.cells, Pt.slots] at X27 l27 y27 z27 st27 hQ27
    subst l27 y27 z27
    obtain ⟨rfl, N27q, e27⟩ := hQ27
    have N27 := Fr.app N26 N27q
    obtain ⟨cq28, kq28, q28a, q28b, q28c⟩ := isOf hZ e27 F0
    obtain ⟨_, _, ⟨T28, L28, k28, n28⟩, -, X28, ⟨Lc28, hQ28, l28, y28, z28⟩, st28⟩ := X27.virtualBack hx (y := oM30) (z := oM30) hown (mvT hZ (ow hw 160 rfl)) (mvT hZ (ow hw 161 rfl)) (notFace_of_selects (args := #[]) (mvT hZ (ow hw 163 rfl))) (mvT hZ (ow hw 163 rfl)) (mvT hZ (ow hw 162 rfl)) (by decide) (backOf (W := 0) (rm29k1 l Z a0 hw [] b cs h0 n0 Z0 Bk Cs hcs Ox) hZ (ow hw 164 rfl) (ow hw 77 rfl) (by decide) (by decide)) q28a q28c (g := (mkF m 16 #[oa sa, oa b, .val .null, oa va, oi cn] [(.ref b)])) rfl (by rw [hml]; rfl) (Steps.refl _) (argsL := []) (rest := []) (lenOf pd12 rfl) rfl (Nat.le_of_eq rfl) (hb hby d25_16) (fun _ _ => ⟨rfl, e27, (by decide : 0 + 0 ≤ _), (by decide : 0 + 0 ≤ _)⟩)
    dsimp only [Pt.U, Pt.locs, Pt.cells, Pt.slots] at X28 l28 y28 z28 st28 hQ28
    subst l28 y28 z28
    obtain ⟨rfl, N28q, e28⟩ := hQ28
    have N28 := Fr.app N27 N28q
    obtain ⟨T29, X29, e29, st29⟩ := getS2 X28 hx hZ hown (host := "") (Or.inl (ow hw 5 rfl)) Via.refl e28 (Cs.ext Ox.2) (g := (mkF m 41 #[oa sa, oa b, .val .null, oa va, oi cn] [])) rfl (hb hby d25_41)
    obtain ⟨T30, X30, e30, st30⟩ := getF X29 hx hZ hown (host := "") (Or.inl (ow hw 254 rfl)) Via.refl e29 F4 (g := (mkF m 48 #[oa sa, oa b, .val .null, oa va, oi cn] [(.ref b)])) rfl rfl (hb hby d25_48)
    obtain ⟨T31, h31, X31, e31, W31, st31⟩ := putFN X30 hx hZ hown (ow hw 25 rfl) Via.refl e30 Sc Es (Or.inr ⟨(ow hw 26 rfl), rfl, hnm⟩) (ow hw 11 rfl) (ty := .byte) (v' := (.int 1)) (by decide) rfl (by decide) (g := (mkF m 81 #[oa sa, oa b, .val .null, oa va, oi cn] [(.int 1), (.ref sa)])) rfl rfl (hb hby d25_81)
    have fw31 : Fld Z h31 sa oS "coder" "B" (.int 1) := Sc.same W31
    have Z32 : n0 ≤ h31.size := Nat.le_trans Z0 (Nat.le_of_eq W31.size.symm)
    have K33 : Keep h0 h31 [sa] := (Keep.refl h0 [sa]).wr W31 (Or.inl (List.mem_of_getElem? (i := 0) rfl))
    have N31 := Fr.snoc X31 N28 gs
    have fa34 := (Bx.other W31 (Ne.symm nsv))
    obtain ⟨_, _, ⟨T35, L35, k35, n35⟩, -, X35, ⟨Lc35, hQ35, l35, y35, z35⟩, st35⟩ := Jvm.LawKit.callS X31 hx (y := oM46) hown (mvT hZ (ow hw 165 rfl)) (mvT hZ (ow hw 166 rfl)) (mvT hZ (ow hw 167 rfl)) (mvT hZ (ow hw 168 rfl)) (by decide) (backOf (W := 1) (rm30z32 l Z a0 hw [] va (cn <<< ((1 : Int32) &&& 31)) kv (own_ub us) h31 n0 Z32 fa34 (own_ts1 hcn hlt).2.2.1 (own_ts1 hcn hlt).1 (own_ts1 hcn hlt).2.1) hZ (ow hw 168 rfl) (ow hw 167 rfl) (by decide) (by decide)) (g := (mkF m 91 #[oa sa, oa b, .val .null, oa va, oi cn] [(.int (cn <<< ((1 : Int32) &&& 31))), (.int 0), (.ref va), (.ref sa)])) rfl (by rw [hml]; rfl) (argsL := [(.ref va), (.int 0), (.int (cn <<< ((1 : Int32) &&& 31)))]) (rest := [(.ref sa)]) (lenOf pd36 rfl) rfl (Nat.le_of_eq rfl) (hb hby d25_91) (fun _ _ => ⟨rfl, e31, (by decide : 0 + 1 ≤ _), (by decide : 0 + 32 ≤ _)⟩)
    dsimp only [Pt.U, Pt.locs, Pt.cells, Pt.slots] at X35 l35 y35 z35 st35 hQ35
    subst l35 y35 z35
    obtain ⟨vb_36, kb_37, rfl, N35q, K35, u35_0, u35_1, f35_0⟩ := hQ35
    have N35 := Fr.app N31 N35q
    have Z38 : n0 ≤ T35.heap.size := Nat.le_trans Z32 K35.1
    have K39 : Keep h0 T35.heap [sa] := K33.trans K35 all0
    have ne40 := own_nc (Es.wr W31).lt u35_1
    have ne41 := own_nc (F0.wr W31).lt u35_1
    have ne42 := own_nc fa34.lt u35_1
    have sz_vb_36 : h0.size ≤ vb_36 := Nat.le_trans K33.1 u35_1
    have fa43 := ((Sv.other W31 (Or.inr (slot_ne (Or.inr (ow hw 24 rfl)) (Or.inr (ow hw 26 rfl)) (by decide) (t := (.array .byte)) (t' := .byte) (by decide) (by decide)))).keep K35 nin0)
    have fa44 := ((Es.wr W31).keep K35)
    obtain ⟨T45, h45, X45, e45, W45, st45⟩ := putF X35 hx hZ hown (host := "") (Or.inl (ow hw 23 rfl)) Via.refl rfl fa43 fa44 (Or.inr ⟨(ow hw 24 rfl), rfl, hnm⟩) (ow hw 11 rfl) (ty := (.array .byte)) (by decide) rfl rfl (g := (mkF m 94 #[oa sa, oa b, .val .null, oa va, oi cn] [(.ref vb_36), (.ref sa)])) rfl rfl (hb hby d25_94)
    have fw45 : Fld Z h45 sa oS "value" "[B" (.ref vb_36) := fa43.same W45
    have Z46 : n0 ≤ h45.size := Nat.le_trans Z38 (Nat.le_of_eq W45.size.symm)
    have K47 : Keep h0 h45 [sa] := K39.wr W45 (Or.inl (List.mem_of_getElem? (i := 0) rfl))
    have N45 := Fr.snoc X45 N35 gs
    obtain ⟨fsZ, hrZ, hrun, hended, hW, hsame⟩ := X45.leave (v := none) (fun _ => rfl)
    have hqe : own_enc us (1 : Int32) (cn <<< ((1 : Int32) &&& 31)) (own_ub us) := ⟨hcu, hlu, Or.inr ⟨hlau, rfl, (own_ts1 hcn hlt).2.2.2, rfl⟩⟩
    have fa48 := (fa44.wr W45)
    have fa49 := ((fw31.keep K35 nin0).other W45 (Or.inr (slot_ne (Or.inr (ow hw 26 rfl)) (Or.inr (ow hw 24 rfl)) (by decide) (t := .byte) (t' := (.array .byte)) (by decide) (by decide))))
    have fa50 := (f35_0.other W45 (Ne.symm ne40))
    refine ⟨_, _, pre0 _ ?_, hrun, hended, _, _, rfl, ?_, ⟨_, rfl⟩, hW, hsame.mono (by decide) (by decide)⟩
    · show Steps _ _ _ (s₁.setTop (mkF m 0 #[oa sa, oa b, .val .null, .unset, .unset] [])) _
      refine XS.aloadN X0.here hx rfl (hb hby d25_0) rfl rfl ?_
      refine st25 _ ?_
      refine XS.aloadN X25.here hx rfl (hb hby d25_4) rfl rfl ?_
      refine st26.trans ?_
      refine XS.astoreN X26.here hx rfl (hb hby d25_8) rfl rfl (l' := #[oa sa, oa b, .val .null, oa va, .unset]) rfl ?_
      refine XS.aloadN X26.here hx rfl (hb hby d25_9) rfl rfl ?_
      refine st27.trans ?_
      refine XS.istore X27.here hx rfl (hb hby d25_13) rfl (l' := #[oa sa, oa b, .val .null, oa va, oi cn]) rfl ?_
      show Steps _ _ _ (T27.setTop (mkF m 15 #[oa sa, oa b, .val .null, oa va, oi cn] [])) _
      refine XS.aloadN X27.here hx rfl (hb hby d25_15) rfl rfl ?_
      refine st28.trans ?_
      refine XS.ifYes X28.here hx rfl (pc0 := 19) (pc' := 41) rfl (hb hby d25_19) rfl ((if0 _ _).trans (teq (by decide)).1) (by decide) (by decide) ?_
      refine st29 _ ?_
      refine XS.ifNo X29.here hx rfl (hb hby d25_44) rfl ((if0 _ _).trans (feq hcs).1) ?_
      refine XS.aloadN X29.here hx rfl (hb hby d25_47) rfl rfl ?_
      refine st30 _ ?_
      refine XS.ifYes X30.here hx rfl (pc0 := 51) (pc' := 79) rfl (hb hby d25_51) rfl ((if0 _ _).trans (teq (by decide)).1) (by decide) (by decide) ?_
      show Steps _ _ _ (T30.setTop (mkF m 79 #[oa sa, oa b, .val .null, oa va, oi cn] [])) _
      refine XS.aloadN X30.here hx rfl (hb hby d25_79) rfl rfl ?_
      refine XS.iconst X30.here hx rfl (hb hby d25_80) ?_
      refine st31 _ ?_
      refine XS.aloadN X31.here hx rfl (hb hby d25_84) rfl rfl ?_
      refine XS.aloadN X31.here hx rfl (hb hby d25_85) rfl rfl ?_
      refine XS.iconst X31.here hx rfl (hb hby d25_86) ?_
      refine XS.iload X31.here hx rfl (hb hby d25_87) rfl  ?_
      refine XS.iconst X31.here hx rfl (hb hby d25_89) ?_
      show Steps _ _ _ (T31.setTop (mkF m 90 #[oa sa, oa b, .val .null, oa va, oi cn] [(.int 1), (.int cn), (.int 0), (.ref va), (.ref sa)])) _
      refine XS.ishl X31.here hx rfl (hb hby d25_90) rfl ?_
      refine st35 _ ?_
      refine st45 _ ?_
      show Steps _ _ _ (T45.setTop (mkF m 97 #[oa sa, oa b, .val .null, oa va, oi cn] [])) _
      exact X45.returnOut hx Bd.returns (hb hby d25_97) hrZ
    · show Q25 Z sa b w1 w2 va kv bc nv xs cn us cs h0 n0 _ T45.heap _
      rw [e45]
      exact ⟨vb_36, kb_37, (1 : Int32), (cn <<< ((1 : Int32) &&& 31)), (own_ub us), rfl, N45, K47, u35_0, sz_vb_36, (by first | assumption | exact own_b01 _ | decide | omega | exact Or.inl rfl | exact Or.inr (by assumption)), fa48, fa49, fw45, fa50⟩
theorem d24_0 : decode zc48 0 = .ok (.aload_n 0, 1) := by decide +kernel
theorem d24_1 : decode zc48 1 = .ok (.aload_n 1, 1) := by decide +kernel
theorem d24_2 : decode zc48 2 = .ok (.aconst_null, 1) := by decide +kernel
theorem d24_3 : decode zc48 3 = .ok (.invokespecial 489, 3) := by decide +kernel
theorem pd38 : parseMethodDescriptor "(Ljava/lang/AbstractStringBuilder;Ljava/lang/Void;)V" = some ⟨[(.object oA), (.object "java/lang/Void")], none⟩ := by decide +kernel
theorem d24_6 : decode zc48 6 = .ok (.return_, 1) := by decide +kernel
theorem ef24 (m : MethodId) (sa : Addr) (b : Addr) : entryFrame m #[(.ref sa), (.ref b)] 2 = mkF m 0 #[oa sa, oa b] [] := by first | (simp [entryFrame, mkF, argsToLocals, Value.category]; done) | rfl
def Q24 (Z : State) (sa : Addr) (b : Addr) (w1 : Value) (w2 : Value) (va : Addr) (kv : ClassId) (bc : Int32) (nv : Int32) (xs : List Value) (cn : Int32) (us : List Int32) (cs : Int32) (h0 : Heap) (n0 : Nat) (v : Option Value) (h : Heap) (L : List Loc) : Prop := ∃ (vb : Addr) (kb : ClassId) (kc : Int32) (nb : Int32) (vs : List Value), v = none ∧ Fr n0 L ∧ Keep h0 h [sa] ∧ n0 ≤ vb ∧ h0.size ≤ vb ∧ own_enc us kc nb vs ∧ Exa Z h sa oS ∧ Fld Z h sa oS "coder" "B" (.int kc) ∧ Fld Z h sa oS "value" "[B" (.ref vb) ∧ Arv Z h vb kb .byte nb vs (.int 0)
theorem rm24 (l : Launch) (Z : State) (a0 : Array Value) (hw : ∀ d ∈ tables_1, d.before a0 Z = true) (ws : List Jvm.Cond) (sa : Addr) (b : Addr) (w1 : Value) (w2 : Value) (va : Addr) (kv : ClassId) (bc : Int32) (nv : Int32) (xs : List Value) (cn : Int32) (us : List Int32) (cs : Int32) (h0 : Heap) (n0 : Nat) (Z0 : n0 ≤ h0.size) (Es : Exa Z h0 sa oS) (Sc : Fld Z h0 sa oS "coder" "B" w1) (Sv : Fld Z h0 sa oS "value" "[B" w2) (gs : n0 ≤ sa) (F0 : Exa Z h0 b oB) (F1 : Fld Z h0 b oA "value" "[B" (.ref va)) (F2 : Fld Z h0 b oA "coder" "B" (.int bc)) (F3 : Fld Z h0 b oA "count" "I" (.int cn)) (F4 : Fld Z h0 b oA "maybeLatin1" "Z" (.int 0)) (F5 : Arv Z h0 va kv .byte nv xs (.int 0)) (nsb : sa ≠ b) (nsv : sa ≠ va) (hsb : own_sbe us bc nv xs) (hcn : cn.toInt = us.length) (hlt : us.length < 16) (Cs : Sta Z Z.heap oS "COMPACT_STRINGS" "Z" (.int cs)) (hcs : ¬ (cs = (0 : Int32))) (Ox : Old Z n0 h0) :
    MetFree l oM48 (head1 (Jvm.Cond.code oM48 zc48 2 none :: ws) oR39) (fun a U => a = #[(.ref sa), (.ref b)] ∧ Z.Warmed39 U.vm ∧ U.heap = h0) (fun _ _ _ _ _ => True) (fun _ U o U' => ∃ v L, o = .returned v ∧ Q24 Z sa b w1 w2 va kv bc nv xs cn us cs h0 n0 v U'.heap L ∧ FrameEnd U o U' L oR39.cells oR39.slots) := by
  refine MetFree.of_bodySF (plainFor_of_name pn3) hisR ?_
  intro p e s m args below meth c s₁ Bd hml0 hP hK
  obtain ⟨rfl, hZ, hh⟩ := hP
  have hx := Bd.exec
  have hby := Bd.bytes
  have hml : c.maxLocals = 2 := hml0
  have hown : s.vm.findClass oS = some m.cls := findClass_of_methodNamed Bd.named
  have X0 : Stand p l e oR39 s m #[(.ref sa), (.ref b)] below meth c s₁ [] 0 0 := Stand.of_body Bd
  have e0 : s₁.heap = h0 := by rw [← hh, Bd.state]; rfl
  have N0 := Fr.nil n0
  have pre0 := own_pre (p := p) (e := e) (below := below) (s₁ := s₁) (ef24 m sa b)
  obtain ⟨_, _, ⟨T1, L1, k1, n1⟩, -, X1, ⟨Lc1, hQ1, l1, y1, z1⟩, st1⟩ := X0.specialBack hx (y := oM47) rfl hown (mvT hZ (ow hw 144 rfl)) (mvT hZ (ow hw 145 rfl)) (mvT hZ (ow hw 146 rfl)) (by decide) (backOf (W := 0) (rm25 l Z a0 hw [] sa b w1 w2 va kv bc nv xs cn us cs h0 n0 Z0 Es Sc Sv gs F0 F1 F2 F3 F4 F5 nsb nsv hsb hcn hlt Cs hcs Ox) hZ (ow hw 146 rfl) (ow hw 3 rfl) (by decide) (by decide)) (g := (mkF m 3 #[oa sa, oa b] [.null, (.ref b), (.ref sa)])) rfl (by rw [hml]; rfl) (Steps.refl _) (a := sa) (argsL := [(.ref b), .null]) (rest := []) (lenOf pd38 rfl) rfl (Nat.le_of_eq rfl) (hb hby d24_3) (fun _ _ => ⟨rfl, e0, (by decide : 0 + 1 ≤ _), (by decide : 0 + 32 ≤ _)⟩)
  dsimp only [Pt.U, Pt.locs, Pt.cells, Pt.slots] at X1 l1 y1 z1 st1 hQ1
  subst l1 y1 z1
  obtain ⟨vb_2, kb_3, kc_4, nb_5, vs_6, rfl, N1q, K1, u1_0, u1_1, u1_2, f1_0, f1_1, f1_2, f1_3⟩ := hQ1
  have N1 := Fr.app N0 N1q
  have Z7 : n0 ≤ T1.heap.size := Nat.le_trans Z0 K1.1
  have K8 : Keep h0 T1.heap [sa] := (Keep.refl h0 [sa]).trans K1 (allS (P := fun x => x ∈ _ ∨ _) (Or.inl (List.mem_of_getElem? (i := 0) rfl)) all0)
  have ne9 := own_nc Es.lt u1_1
  have ne10 := own_nc F0.lt u1_1
  have ne11 := own_nc F5.lt u1_1
  have sz_vb_2 : h0.size ≤ vb_2 := Nat.le_trans (Keep.refl h0 [sa]).1 u1_1
  obtain ⟨fsZ, hrZ, hrun, hended, hW, hsame⟩ := X1.leave (v := none) (fun _ => rfl)
  refine ⟨_, _, pre0 _ ?_, hrun, hended, _, _, rfl, ?_, ⟨_, rfl⟩, hW, hsame.mono (by decide) (by decide)⟩
  · show Steps _ _ _ (s₁.setTop (mkF m 0 #[oa sa, oa b] [])) _
    refine XS.aloadN X0.here hx rfl (hb hby d24_0) rfl rfl ?_
    refine XS.aloadN X0.here hx rfl (hb hby d24_1) rfl rfl ?_
    refine XS.aconstNull X0.here hx rfl (hb hby d24_2) ?_
    refine st1.trans ?_
    show Steps _ _ _ (T1.setTop (mkF m 6 #[oa sa, oa b] [])) _
    exact X1.returnOut hx Bd.returns (hb hby d24_6) hrZ
  · show Q24 Z sa b w1 w2 va kv bc nv xs cn us cs h0 n0 _ T1.heap _
    exact ⟨vb_2, kb_3, kc_4, nb_5, vs_6, rfl, N1, K8, u1_0, sz_vb_2, (by first | assumption | exact own_b01 _ | decide | omega | exact Or.inl rfl | exact Or.inr (by assumption)), f1_0, f1_1, f1_2, f1_3⟩
theorem d23_0 : decode zc49 0 = .ok (.new 18, 3) := by decide +kernel
theorem d23_3 : decode zc49 3 = .ok (.dup, 1) := by decide +kernel
theorem d23_4 : decode zc49 4 = .ok (.aload_n 0, 1) := by decide +kernel
theorem d23_5 : decode zc49 5 = .ok (.invokespecial 137, 3) := by decide +kernel
theorem pd39 : parseMethodDescriptor "(Ljava/lang/StringBuilder;)V" = some ⟨[(.object oB)], none⟩ := by decide +kernel
theorem d23_8 : decode zc49 8 = .ok (.areturn, 1) := by decide +kernel
theorem ef23 (m : MethodId) (b : Addr) : entryFrame m #[(.ref b)] 1 = mkF m 0 #[oa b] [] := by first | (simp [entryFrame, mkF, argsToLocals, Value.category]; done) | rfl
def Q23 (Z : State) (b : Addr) (va : Addr) (kv : ClassId) (bc : Int32) (nv : Int32) (xs : List Value) (cn : Int32) (us : List Int32) (cs : Int32) (h0 : Heap) (n0 : Nat) (v : Option Value) (h : Heap) (L : List Loc) : Prop := ∃ (sa : Addr) (vb : Addr) (kb : ClassId) (kc : Int32) (nb : Int32) (vs : List Value), v = some (.ref sa) ∧ Fr n0 L ∧ Keep h0 h [] ∧ n0 ≤ sa ∧ h0.size ≤ sa ∧ n0 ≤ vb ∧ h0.size ≤ vb ∧ own_enc us kc nb vs ∧ Exa Z h sa oS ∧ Fld Z h sa oS "coder" "B" (.int kc) ∧ Fld Z h sa oS "value" "[B" (.ref vb) ∧ Arv Z h vb kb .byte nb vs (.int 0)
theorem rm23 (l : Launch) (Z : State) (a0 : Array Value) (hw : ∀ d ∈ tables_1, d.before a0 Z = true) (ws : List Jvm.Cond) (b : Addr) (va : Addr) (kv : ClassId) (bc : Int32) (nv : Int32) (xs : List Value) (cn : Int32) (us : List Int32) (cs : Int32) (h0 : Heap) (n0 : Nat) (Z0 : n0 ≤ h0.size) (F0 : Exa Z h0 b oB) (F1 : Fld Z h0 b oA "value" "[B" (.ref va)) (F2 : Fld Z h0 b oA "coder" "B" (.int bc)) (F3 : Fld Z h0 b oA "count" "I" (.int cn)) (F4 : Fld Z h0 b oA "maybeLatin1" "Z" (.int 0)) (F5 : Arv Z h0 va kv .byte nv xs (.int 0)) (hsb : own_sbe us bc nv xs) (hcn : cn.toInt = us.length) (hlt : us.length < 16) (Cs : Sta Z Z.heap oS "COMPACT_STRINGS" "Z" (.int cs)) (hcs : ¬ (cs = (0 : Int32))) (Ox : Old Z n0 h0) :
    MetFree l oM49 (head1 (Jvm.Cond.code oM49 zc49 1 (some (.object oS)) :: ws) oR40) (fun a U => a = #[(.ref b)] ∧ Z.Warmed39 U.vm ∧ U.heap = h0) (fun _ _ _ _ _ => True) (fun _ U o U' => ∃ v L, o = .returned v ∧ Q23 Z b va kv bc nv xs cn us cs h0 n0 v U'.heap L ∧ FrameEnd U o U' L oR40.cells oR40.slots) := by
  refine MetFree.of_bodySF (plainFor_of_name pn24) hisR ?_
  intro p e s m args below meth c s₁ Bd hml0 hP hK
  obtain ⟨rfl, hZ, hh⟩ := hP
  have hx := Bd.exec
  have hby := Bd.bytes
  have hml : c.maxLocals = 1 := hml0
  have hown : s.vm.findClass oB = some m.cls := findClass_of_methodNamed Bd.named
  have X0 : Stand p l e oR40 s m #[(.ref b)] below meth c s₁ [] 0 0 := Stand.of_body Bd
  have e0 : s₁.heap = h0 := by rw [← hh, Bd.state]; rfl
  have N0 := Fr.nil n0
  have pre0 := own_pre (p := p) (e := e) (below := below) (s₁ := s₁) (ef23 m b)
  obtain ⟨T1, h1, X1, e1, E1, A1, D1, -, st1⟩ := newO X0 hx hZ hown (ow hw 140 rfl) (ow hw 11 rfl) (ow hw 3 rfl) e0 (g := (mkF m 0 #[oa b] [])) rfl (hb hby d23_0) (by decide) (by decide)
  obtain ⟨b1, g1⟩ : ∃ z, z = h0.size := ⟨_, rfl⟩
  rw [← g1] at A1 D1 st1
  have ne2 := own_nb F0.lt g1
  have ne3 := own_nb F5.lt g1
  have gn_b1 : n0 ≤ b1 := Nat.le_trans Z0 (Nat.le_of_eq g1.symm)
  have sz_b1 : h0.size ≤ b1 := Nat.le_trans (Keep.refl h0 []).1 (Nat.le_of_eq g1.symm)
  have Z4 : n0 ≤ h1.size := Nat.le_trans Z0 E1.1
  have K5 : Keep h0 h1 [] := (Keep.refl h0 []).ext E1
  have F_value_b1 : Fld Z h1 b1 oS "value" "[B" .null := D1 (Or.inr (ow hw 24 rfl)) (ty := (.array .byte)) (by decide)
  have F_coder_b1 : Fld Z h1 b1 oS "coder" "B" (.int 0) := D1 (Or.inr (ow hw 26 rfl)) (ty := .byte) (by decide)
  have fa6 := (F0.ext E1)
  have fa7 := (F1.ext E1)
  have fa8 := (F2.ext E1)
  have fa9 := (F3.ext E1)
  have fa10 := (F4.ext E1)
  have fa11 := (F5.ext E1)
  have fa12 := (Ox.ext E1)
  obtain ⟨_, _, ⟨T13, L13, k13, n13⟩, -, X13, ⟨Lc13, hQ13, l13, y13, z13⟩, st13⟩ := X1.specialBack hx (y := oM48) rfl hown (mvT hZ (ow hw 141 rfl)) (mvT hZ (ow hw 142 rfl)) (mvT hZ (ow hw 143 rfl)) (by decide) (backOf (W := 1) (rm24 l Z a0 hw [] b1 b (.int 0) .null va kv bc nv xs cn us cs h1 n0 Z4 A1 F_coder_b1 F_value_b1 gn_b1 fa6 fa7 fa8 fa9 fa10 fa11 (Ne.symm ne2) (Ne.symm ne3) hsb hcn hlt Cs hcs fa12) hZ (ow hw 143 rfl) (ow hw 3 rfl) (by decide) (by decide)) (g := (mkF m 5 #[oa b] [(.ref b), (.ref b1), (.ref b1)])) rfl (by rw [hml]; rfl) (Steps.refl _) (a := b1) (argsL := [(.ref b)]) (rest := [(.ref b1)]) (lenOf pd39 rfl) rfl (Nat.le_of_eq rfl) (hb hby d23_5) (fun _ _ => ⟨rfl, e1, (by decide : 1 + 1 ≤ _), (by decide : 4 + 32 ≤ _)⟩)
  dsimp only [Pt.U, Pt.locs, Pt.cells, Pt.slots] at X13 l13 y13 z13 st13 hQ13
  subst l13 y13 z13
  obtain ⟨vb_14, kb_15, kc_16, nb_17, vs_18, rfl, N13q, K13, u13_0, u13_1, u13_2, f13_0, f13_1, f13_2, f13_3⟩ := hQ13
  have N13 := Fr.app N0 N13q
  have Z19 : n0 ≤ T13.heap.size := Nat.le_trans Z4 K13.1
  have K20 : Keep h0 T13.heap [] := K5.trans K13 (allS (P := fun x => x ∈ _ ∨ _) (Or.inr sz_b1) all0)
  have ne21 := own_nc fa6.lt u13_1
  have ne22 := own_nc fa11.lt u13_1
  have ne23 := own_nc A1.lt u13_1
  have sz_vb_14 : h0.size ≤ vb_14 := Nat.le_trans K5.1 u13_1
  obtain ⟨fsZ, hrZ, hrun, hended, hW, hsame⟩ := X13.leave (v := some (.ref b1)) (fun h => by rw [Bd.returns] at h; cases h)
  refine ⟨_, _, pre0 _ ?_, hrun, hended, _, _, rfl, ?_, ⟨_, rfl⟩, hW, hsame.mono (by decide) (by decide)⟩
  · show Steps _ _ _ (s₁.setTop (mkF m 0 #[oa b] [])) _
    refine st1 _ ?_
    refine XS.dup X1.here hx rfl (hb hby d23_3) rfl rfl ?_
    refine XS.aloadN X1.here hx rfl (hb hby d23_4) rfl rfl ?_
    refine st13.trans ?_
    show Steps _ _ _ (T13.setTop (mkF m 8 #[oa b] [(.ref b1)])) _
    jvm_step X13.here [X13.here.top, hx, (hb hby d23_8), X13.method', Bd.returns, Value.isRef, FieldType.isReference]
    first | (intro acts; rw [hrZ _ acts rfl rfl rfl]) | rw [hrZ _ _ rfl rfl rfl]
    exact Steps.refl _
  · show Q23 Z b va kv bc nv xs cn us cs h0 n0 _ T13.heap _
    exact ⟨b1, vb_14, kb_15, kc_16, nb_17, vs_18, rfl, N13, K20, gn_b1, sz_b1, u13_0, sz_vb_14, (by first | assumption | exact own_b01 _ | decide | omega | exact Or.inl rfl | exact Or.inr (by assumption)), f13_0, f13_1, f13_2, f13_3⟩
theorem pn40 : plainName "com/example/hash4/hash4/canonical/CanonicalUrl" = true := by first | (simp [plainName, overriddenIn]; done) | decide +kernel
theorem d11_0 : decode prog_1_method_1_code 0 = .ok (.aload_n 0, 1) := by decide +kernel
theorem d11_1 : decode prog_1_method_1_code 1 = .ok (.invokespecial 1, 3) := by decide +kernel
theorem d11_4 : decode prog_1_method_1_code 4 = .ok (.aload_n 0, 1) := by decide +kernel
theorem d11_5 : decode prog_1_method_1_code 5 = .ok (.aload_n 1, 1) := by decide +kernel
theorem d11_6 : decode prog_1_method_1_code 6 = .ok (.putfield 7, 3) := by decide +kernel
theorem d11_9 : decode prog_1_method_1_code 9 = .ok (.aload_n 0, 1) := by decide +kernel
theorem d11_10 : decode prog_1_method_1_code 10 = .ok (.aload_n 2, 1) := by decide +kernel
theorem d11_11 : decode prog_1_method_1_code 11 = .ok (.putfield 13, 3) := by decide +kernel
theorem d11_14 : decode prog_1_method_1_code 14 = .ok (.aload_n 0, 1) := by decide +kernel
theorem d11_15 : decode prog_1_method_1_code 15 = .ok (.iload_n 3, 1) := by decide +kernel
theorem d11_16 : decode prog_1_method_1_code 16 = .ok (.putfield 16, 3) := by decide +kernel
theorem d11_19 : decode prog_1_method_1_code 19 = .ok (.aload_n 0, 1) := by decide +kernel
theorem d11_20 : decode prog_1_method_1_code 20 = .ok (.aload 4, 2) := by decide +kernel
theorem d11_22 : decode prog_1_method_1_code 22 = .ok (.putfield 20, 3) := by decide +kernel
theorem d11_25 : decode prog_1_method_1_code 25 = .ok (.aload_n 0, 1) := by decide +kernel
theorem d11_26 : decode prog_1_method_1_code 26 = .ok (.aload 5, 2) := by decide +kernel
theorem d11_28 : decode prog_1_method_1_code 28 = .ok (.putfield 23, 3) := by decide +kernel
theorem d11_31 : decode prog_1_method_1_code 31 = .ok (.return_, 1) := by decide +kernel
theorem ef11n (m : MethodId) (r : Addr) (sa_s : Addr) (sa_h : Addr) (hp : Int32) (sa_p : Addr) : entryFrame m #[(.ref r), (.ref sa_s), (.ref sa_h), (.int hp), (.ref sa_p), .null] 6 = mkF m 0 #[oa r, oa sa_s, oa sa_h, oi hp, oa sa_p, .val .null] [] := by first | (simp [entryFrame, mkF, argsToLocals, Value.category]; done) | rfl
def Q11n (Z : State) (r : Addr) (sa_s : Addr) (sa_h : Addr) (hp : Int32) (sa_p : Addr) (wv0 : Value) (wv1 : Value) (wv2 : Value) (wv3 : Value) (wv4 : Value) (h0 : Heap) (n0 : Nat) (v : Option Value) (h : Heap) (L : List Loc) : Prop := v = none ∧ Fr n0 L ∧ Keep h0 h [r] ∧ Exa Z h r oU ∧ Fld Z h r oU "scheme" "Ljava/lang/String;" (.ref sa_s) ∧ Fld Z h r oU "host" "Ljava/lang/String;" (.ref sa_h) ∧ Fld Z h r oU "path" "Ljava/lang/String;" (.ref sa_p) ∧ Fld Z h r oU "query" "Ljava/lang/String;" .null
theorem rm11n (l : Launch) (Z : State) (a0 : Array Value) (hw : ∀ d ∈ tables_1, d.before a0 Z = true) (ws : List Jvm.Cond) (r : Addr) (sa_s : Addr) (sa_h : Addr) (hp : Int32) (sa_p : Addr) (wv0 : Value) (wv1 : Value) (wv2 : Value) (wv3 : Value) (wv4 : Value) (h0 : Heap) (n0 : Nat) (Z0 : n0 ≤ h0.size) (Er : Exa Z h0 r oU) (R0 : Fld Z h0 r oU "scheme" "Ljava/lang/String;" wv0) (R1 : Fld Z h0 r oU "host" "Ljava/lang/String;" wv1) (R2 : Fld Z h0 r oU "hostIsIpv4Address" "Z" wv2) (R3 : Fld Z h0 r oU "path" "Ljava/lang/String;" wv3) (R4 : Fld Z h0 r oU "query" "Ljava/lang/String;" wv4) (gr : n0 ≤ r) :
    MetFree l oM50 (head1 (Jvm.Cond.code oM50 prog_1_method_1_code 6 none :: ws) oR15) (fun a U => a = #[(.ref r), (.ref sa_s), (.ref sa_h), (.int hp), (.ref sa_p), .null] ∧ Z.Warmed39 U.vm ∧ U.heap = h0) (fun _ _ _ _ _ => True) (fun _ U o U' => ∃ v L, o = .returned v ∧ Q11n Z r sa_s sa_h hp sa_p wv0 wv1 wv2 wv3 wv4 h0 n0 v U'.heap L ∧ FrameEnd U o U' L oR15.cells oR15.slots) := by
  refine MetFree.of_bodySF (plainFor_of_name pn40) hisR ?_
  intro p e s m args below meth c s₁ Bd hml0 hP hK
  obtain ⟨rfl, hZ, hh⟩ := hP
  have hx := Bd.exec
  have hby := Bd.bytes
  have hml : c.maxLocals = 6 := hml0
  have hown : s.vm.findClass oU = some m.cls := findClass_of_methodNamed Bd.named
  have hnm := (name_of_methodNamed Bd.named Bd.method).1
  have X0 : Stand p l e oR15 s m #[(.ref r), (.ref sa_s), (.ref sa_h), (.int hp), (.ref sa_p), .null] below meth c s₁ [] 0 0 := Stand.of_body Bd
  have e0 : s₁.heap = h0 := by rw [← hh, Bd.state]; rfl
  have N0 := Fr.nil n0
  have pre0 := own_pre (p := p) (e := e) (below := below) (s₁ := s₁) (ef11n m r sa_s sa_h hp sa_p)
  obtain ⟨T1, X1, e1, st1⟩ := initO X0 hx hZ hown (ow hw 51 rfl) (ow hw 21 rfl) (ow hw 22 rfl) e0 (g := (mkF m 1 #[oa r, oa sa_s, oa sa_h, oi hp, oa sa_p, .val .null] [(.ref r)])) rfl (by rw [hml]; rfl) rfl (hb hby d11_1) (by decide) (W := 0) (Nat.le_of_eq rfl) (by decide)
  obtain ⟨T2, h2, X2, e2, W2, st2⟩ := putF X1 hx hZ hown (host := "") (Or.inl (ow hw 52 rfl)) Via.refl e1 R0 Er (Or.inr ⟨(ow hw 53 rfl), rfl, hnm⟩) (ow hw 46 rfl) (ty := (.object oS)) (by decide) rfl rfl (g := (mkF m 6 #[oa r, oa sa_s, oa sa_h, oi hp, oa sa_p, .val .null] [(.ref sa_s), (.ref r)])) rfl rfl (hb hby d11_6)
  have fw2 : Fld Z h2 r oU "scheme" "Ljava/lang/String;" (.ref sa_s) := R0.same W2
  have Z3 : n0 ≤ h2.size := Nat.le_trans Z0 (Nat.le_of_eq W2.size.symm)
  have K4 : Keep h0 h2 [r] := (Keep.refl h0 [r]).wr W2 (Or.inl (List.mem_of_getElem? (i := 0) rfl))
  have N2 := Fr.snoc X2 N0 gr
  have fa5 := (R1.other W2 (Or.inr (slot_ne (Or.inr (ow hw 55 rfl)) (Or.inr (ow hw 53 rfl)) (by decide) (t := (.object oS)) (t' := (.object oS)) (by decide) (by decide))))
  have fa6 := (Er.wr W2)
  obtain ⟨T7, h7, X7, e7, W7, st7⟩ := putF X2 hx hZ hown (host := "") (Or.inl (ow hw 54 rfl)) Via.refl e2 fa5 fa6 (Or.inr ⟨(ow hw 55 rfl), rfl, hnm⟩) (ow hw 46 rfl) (ty := (.object oS)) (by decide) rfl rfl (g := (mkF m 11 #[oa r, oa sa_s, oa sa_h, oi hp, oa sa_p, .val .null] [(.ref sa_h), (.ref r)])) rfl rfl (hb hby d11_11)
  have fw7 : Fld Z h7 r oU "host" "Ljava/lang/String;" (.ref sa_h) := fa5.same W7
  have Z8 : n0 ≤ h7.size := Nat.le_trans Z3 (Nat.le_of_eq W7.size.symm)
  have K9 : Keep h0 h7 [r] := K4.wr W7 (Or.inl (List.mem_of_getElem? (i := 0) rfl))
  have N7 := Fr.snoc X7 N2 gr
  have fa10 := ((R2.other W2 (Or.inr (slot_ne (Or.inr (ow hw 57 rfl)) (Or.inr (ow hw 53 rfl)) (by decide) (t := .boolean) (t' := (.object oS)) (by decide) (by decide)))).other W7 (Or.inr (slot_ne (Or.inr (ow hw 57 rfl)) (Or.inr (ow hw 55 rfl)) (by decide) (t := .boolean) (t' := (.object oS)) (by decide) (by decide))))
  have fa11 := (fa6.wr W7)
  obtain ⟨T12, h12, X12, e12, W12, st12⟩ := putFN X7 hx hZ hown (ow hw 56 rfl) Via.refl e7 fa10 fa11 (Or.inr ⟨(ow hw 57 rfl), rfl, hnm⟩) (ow hw 46 rfl) (ty := .boolean) (v' := (.int (nar .boolean hp))) (by decide) rfl (fits_nar_bool _) (g := (mkF m 16 #[oa r, oa sa_s, oa sa_h, oi hp, oa sa_p, .val .null] [(.int hp), (.ref r)])) rfl rfl (hb hby d11_16)
  have fw12 : Fld Z h12 r oU "hostIsIpv4Address" "Z" (.int (nar .boolean hp)) := fa10.same W12
  have Z13 : n0 ≤ h12.size := Nat.le_trans Z8 (Nat.le_of_eq W12.size.symm)
  have K14 : Keep h0 h12 [r] := K9.wr W12 (Or.inl (List.mem_of_getElem? (i := 0) rfl))
  have N12 := Fr.snoc X12 N7 gr
  have fa15 := (((R3.other W2 (Or.inr (slot_ne (Or.inr (ow hw 59 rfl)) (Or.inr (ow hw 53 rfl)) (by decide) (t := (.object oS)) (t' := (.object oS)) (by decide) (by decide)))).other W7 (Or.inr (slot_ne (Or.inr (ow hw 59 rfl)) (Or.inr (ow hw 55 rfl)) (by decide) (t := (.object oS)) (t' := (.object oS)) (by decide) (by decide)))).other W12 (Or.inr (slot_ne (Or.inr (ow hw 59 rfl)) (Or.inr (ow hw 57 rfl)) (by decide) (t := (.object oS)) (t' := .boolean) (by decide) (by decide))))
  have fa16 := (fa11.wr W12)
  obtain ⟨T17, h17, X17, e17, W17, st17⟩ := putF X12 hx hZ hown (host := "") (Or.inl (ow hw 58 rfl)) Via.refl e12 fa15 fa16 (Or.inr ⟨(ow hw 59 rfl), rfl, hnm⟩) (ow hw 46 rfl) (ty := (.object oS)) (by decide) rfl rfl (g := (mkF m 22 #[oa r, oa sa_s, oa sa_h, oi hp, oa sa_p, .val .null] [(.ref sa_p), (.ref r)])) rfl rfl (hb hby d11_22)
  have fw17 : Fld Z h17 r oU "path" "Ljava/lang/String;" (.ref sa_p) := fa15.same W17
  have Z18 : n0 ≤ h17.size := Nat.le_trans Z13 (Nat.le_of_eq W17.size.symm)
  have K19 : Keep h0 h17 [r] := K14.wr W17 (Or.inl (List.mem_of_getElem? (i := 0) rfl))
  have N17 := Fr.snoc X17 N12 gr
  have fa20 := ((((R4.other W2 (Or.inr (slot_ne (Or.inr (ow hw 61 rfl)) (Or.inr (ow hw 53 rfl)) (by decide) (t := (.object oS)) (t' := (.object oS)) (by decide) (by decide)))).other W7 (Or.inr (slot_ne (Or.inr (ow hw 61 rfl)) (Or.inr (ow hw 55 rfl)) (by decide) (t := (.object oS)) (t' := (.object oS)) (by decide) (by decide)))).other W12 (Or.inr (slot_ne (Or.inr (ow hw 61 rfl)) (Or.inr (ow hw 57 rfl)) (by decide) (t := (.object oS)) (t' := .boolean) (by decide) (by decide)))).other W17 (Or.inr (slot_ne (Or.inr (ow hw 61 rfl)) (Or.inr (ow hw 59 rfl)) (by decide) (t := (.object oS)) (t' := (.object oS)) (by decide) (by decide))))
  have fa21 := (fa16.wr W17)
  obtain ⟨T22, h22, X22, e22, W22, st22⟩ := putF X17 hx hZ hown (host := "") (Or.inl (ow hw 60 rfl)) Via.refl e17 fa20 fa21 (Or.inr ⟨(ow hw 61 rfl), rfl, hnm⟩) (ow hw 46 rfl) (ty := (.object oS)) (by decide) rfl rfl (g := (mkF m 28 #[oa r, oa sa_s, oa sa_h, oi hp, oa sa_p, .val .null] [.null, (.ref r)])) rfl rfl (hb hby d11_28)
  have fw22 : Fld Z h22 r oU "query" "Ljava/lang/String;" .null := fa20.same W22
  have Z23 : n0 ≤ h22.size := Nat.le_trans Z18 (Nat.le_of_eq W22.size.symm)
  have K24 : Keep h0 h22 [r] := K19.wr W22 (Or.inl (List.mem_of_getElem? (i := 0) rfl))
  have N22 := Fr.snoc X22 N17 gr
  obtain ⟨fsZ, hrZ, hrun, hended, hW, hsame⟩ := X22.leave (v := none) (fun _ => rfl)
  have fa25 := (fa21.wr W22)
  have fa26 := ((((fw2.other W7 (Or.inr (slot_ne (Or.inr (ow hw 53 rfl)) (Or.inr (ow hw 55 rfl)) (by decide) (t := (.object oS)) (t' := (.object oS)) (by decide) (by decide)))).other W12 (Or.inr (slot_ne (Or.inr (ow hw 53 rfl)) (Or.inr (ow hw 57 rfl)) (by decide) (t := (.object oS)) (t' := .boolean) (by decide) (by decide)))).other W17 (Or.inr (slot_ne (Or.inr (ow hw 53 rfl)) (Or.inr (ow hw 59 rfl)) (by decide) (t := (.object oS)) (t' := (.object oS)) (by decide) (by decide)))).other W22 (Or.inr (slot_ne (Or.inr (ow hw 53 rfl)) (Or.inr (ow hw 61 rfl)) (by decide) (t := (.object oS)) (t' := (.object oS)) (by decide) (by decide))))
  have fa27 := (((fw7.other W12 (Or.inr (slot_ne (Or.inr (ow hw 55 rfl)) (Or.inr (ow hw 57 rfl)) (by decide) (t := (.object oS)) (t' := .boolean) (by decide) (by decide)))).other W17 (Or.inr (slot_ne (Or.inr (ow hw 55 rfl)) (Or.inr (ow hw 59 rfl)) (by decide) (t := (.object oS)) (t' := (.object oS)) (by decide) (by decide)))).other W22 (Or.inr (slot_ne (Or.inr (ow hw 55 rfl)) (Or.inr (ow hw 61 rfl)) (by decide) (t := (.object oS)) (t' := (.object oS)) (by decide) (by decide))))
  have fa28 := (fw17.other W22 (Or.inr (slot_ne (Or.inr (ow hw 59 rfl)) (Or.inr (ow hw 61 rfl)) (by decide) (t := (.object oS)) (t' := (.object oS)) (by decide) (by decide))))
  refine ⟨_, _, pre0 _ ?_, hrun, hended, _, _, rfl, ?_, ⟨_, rfl⟩, hW, hsame.mono (by decide) (by decide)⟩
  · show Steps _ _ _ (s₁.setTop (mkF m 0 #[oa r, oa sa_s, oa sa_h, oi hp, oa sa_p, .val .null] [])) _
    refine XS.aloadN X0.here hx rfl (hb hby d11_0) rfl rfl ?_
    refine st1 _ ?_
    refine XS.aloadN X1.here hx rfl (hb hby d11_4) rfl rfl ?_
    refine XS.aloadN X1.here hx rfl (hb hby d11_5) rfl rfl ?_
    refine st2 _ ?_
    refine XS.aloadN X2.here hx rfl (hb hby d11_9) rfl rfl ?_
    refine XS.aloadN X2.here hx rfl (hb hby d11_10) rfl rfl ?_
    refine st7 _ ?_
    show Steps _ _ _ (T7.setTop (mkF m 14 #[oa r, oa sa_s, oa sa_h, oi hp, oa sa_p, .val .null] [])) _
    refine XS.aloadN X7.here hx rfl (hb hby d11_14) rfl rfl ?_
    refine XS.iloadN X7.here hx rfl (hb hby d11_15) rfl  ?_
    refine st12 _ ?_
    refine XS.aloadN X12.here hx rfl (hb hby d11_19) rfl rfl ?_
    refine XS.aload X12.here hx rfl (hb hby d11_20) rfl rfl ?_
    refine st17 _ ?_
    refine XS.aloadN X17.here hx rfl (hb hby d11_25) rfl rfl ?_
    refine XS.aload X17.here hx rfl (hb hby d11_26) rfl rfl ?_
    show Steps _ _ _ (T17.setTop (mkF m 28 #[oa r, oa sa_s, oa sa_h, oi hp, oa sa_p, .val .null] [.null, (.ref r)])) _
    refine st22 _ ?_
    show Steps _ _ _ (T22.setTop (mkF m 31 #[oa r, oa sa_s, oa sa_h, oi hp, oa sa_p, .val .null] [])) _
    exact X22.returnOut hx Bd.returns (hb hby d11_31) hrZ
  · show Q11n Z r sa_s sa_h hp sa_p wv0 wv1 wv2 wv3 wv4 h0 n0 _ T22.heap _
    rw [e22]
    exact ⟨rfl, N22, K24, fa25, fa26, fa27, fa28, fw22⟩
theorem ef11q (m : MethodId) (r : Addr) (sa_s : Addr) (sa_h : Addr) (hp : Int32) (sa_p : Addr) (sa_q : Addr) : entryFrame m #[(.ref r), (.ref sa_s), (.ref sa_h), (.int hp), (.ref sa_p), (.ref sa_q)] 6 = mkF m 0 #[oa r, oa sa_s, oa sa_h, oi hp, oa sa_p, oa sa_q] [] := by first | (simp [entryFrame, mkF, argsToLocals, Value.category]; done) | rfl
def Q11q (Z : State) (r : Addr) (sa_s : Addr) (sa_h : Addr) (hp : Int32) (sa_p : Addr) (sa_q : Addr) (wv0 : Value) (wv1 : Value) (wv2 : Value) (wv3 : Value) (wv4 : Value) (h0 : Heap) (n0 : Nat) (v : Option Value) (h : Heap) (L : List Loc) : Prop := v = none ∧ Fr n0 L ∧ Keep h0 h [r] ∧ Exa Z h r oU ∧ Fld Z h r oU "scheme" "Ljava/lang/String;" (.ref sa_s) ∧ Fld Z h r oU "host" "Ljava/lang/String;" (.ref sa_h) ∧ Fld Z h r oU "path" "Ljava/lang/String;" (.ref sa_p) ∧ Fld Z h r oU "query" "Ljava/lang/String;" (.ref sa_q)
theorem rm11q (l : Launch) (Z : State) (a0 : Array Value) (hw : ∀ d ∈ tables_1, d.before a0 Z = true) (ws : List Jvm.Cond) (r : Addr) (sa_s : Addr) (sa_h : Addr) (hp : Int32) (sa_p : Addr) (sa_q : Addr) (wv0 : Value) (wv1 : Value) (wv2 : Value) (wv3 : Value) (wv4 : Value) (h0 : Heap) (n0 : Nat) (Z0 : n0 ≤ h0.size) (Er : Exa Z h0 r oU) (R0 : Fld Z h0 r oU "scheme" "Ljava/lang/String;" wv0) (R1 : Fld Z h0 r oU "host" "Ljava/lang/String;" wv1) (R2 : Fld Z h0 r oU "hostIsIpv4Address" "Z" wv2) (R3 : Fld Z h0 r oU "path" "Ljava/lang/String;" wv3) (R4 : Fld Z h0 r oU "query" "Ljava/lang/String;" wv4) (gr : n0 ≤ r) :
    MetFree l oM50 (head1 (Jvm.Cond.code oM50 prog_1_method_1_code 6 none :: ws) oR15) (fun a U => a = #[(.ref r), (.ref sa_s), (.ref sa_h), (.int hp), (.ref sa_p), (.ref sa_q)] ∧ Z.Warmed39 U.vm ∧ U.heap = h0) (fun _ _ _ _ _ => True) (fun _ U o U' => ∃ v L, o = .returned v ∧ Q11q Z r sa_s sa_h hp sa_p sa_q wv0 wv1 wv2 wv3 wv4 h0 n0 v U'.heap L ∧ FrameEnd U o U' L oR15.cells oR15.slots) := by
  refine MetFree.of_bodySF (plainFor_of_name pn40) hisR ?_
  intro p e s m args below meth c s₁ Bd hml0 hP hK
  obtain ⟨rfl, hZ, hh⟩ := hP
  have hx := Bd.exec
  have hby := Bd.bytes
  have hml : c.maxLocals = 6 := hml0
  have hown : s.vm.findClass oU = some m.cls := findClass_of_methodNamed Bd.named
  have hnm := (name_of_methodNamed Bd.named Bd.method).1
  have X0 : Stand p l e oR15 s m #[(.ref r), (.ref sa_s), (.ref sa_h), (.int hp), (.ref sa_p), (.ref sa_q)] below meth c s₁ [] 0 0 := Stand.of_body Bd
  have e0 : s₁.heap = h0 := by rw [← hh, Bd.state]; rfl
  have N0 := Fr.nil n0
  have pre0 := own_pre (p := p) (e := e) (below := below) (s₁ := s₁) (ef11q m r sa_s sa_h hp sa_p sa_q)
  obtain ⟨T1, X1, e1, st1⟩ := initO X0 hx hZ hown (ow hw 51 rfl) (ow hw 21 rfl) (ow hw 22 rfl) e0 (g := (mkF m 1 #[oa r, oa sa_s, oa sa_h, oi hp, oa sa_p, oa sa_q] [(.ref r)])) rfl (by rw [hml]; rfl) rfl (hb hby d11_1) (by decide) (W := 0) (Nat.le_of_eq rfl) (by decide)
  obtain ⟨T2, h2, X2, e2, W2, st2⟩ := putF X1 hx hZ hown (host := "") (Or.inl (ow hw 52 rfl)) Via.refl e1 R0 Er (Or.inr ⟨(ow hw 53 rfl), rfl, hnm⟩) (ow hw 46 rfl) (ty := (.object oS)) (by decide) rfl rfl (g := (mkF m 6 #[oa r, oa sa_s, oa sa_h, oi hp, oa sa_p, oa sa_q] [(.ref sa_s), (.ref r)])) rfl rfl (hb hby d11_6)
  have fw2 : Fld Z h2 r oU "scheme" "Ljava/lang/String;" (.ref sa_s) := R0.same W2
  have Z3 : n0 ≤ h2.size := Nat.le_trans Z0 (Nat.le_of_eq W2.size.symm)
  have K4 : Keep h0 h2 [r] := (Keep.refl h0 [r]).wr W2 (Or.inl (List.mem_of_getElem? (i := 0) rfl))
  have N2 := Fr.snoc X2 N0 gr
  have fa5 := (R1.other W2 (Or.inr (slot_ne (Or.inr (ow hw 55 rfl)) (Or.inr (ow hw 53 rfl)) (by decide) (t := (.object oS)) (t' := (.object oS)) (by decide) (by decide))))
  have fa6 := (Er.wr W2)
  obtain ⟨T7, h7, X7, e7, W7, st7⟩ := putF X2 hx hZ hown (host := "") (Or.inl (ow hw 54 rfl)) Via.refl e2 fa5 fa6 (Or.inr ⟨(ow hw 55 rfl), rfl, hnm⟩) (ow hw 46 rfl) (ty := (.object oS)) (by decide) rfl rfl (g := (mkF m 11 #[oa r, oa sa_s, oa sa_h, oi hp, oa sa_p, oa sa_q] [(.ref sa_h), (.ref r)])) rfl rfl (hb hby d11_11)
  have fw7 : Fld Z h7 r oU "host" "Ljava/lang/String;" (.ref sa_h) := fa5.same W7
  have Z8 : n0 ≤ h7.size := Nat.le_trans Z3 (Nat.le_of_eq W7.size.symm)
  have K9 : Keep h0 h7 [r] := K4.wr W7 (Or.inl (List.mem_of_getElem? (i := 0) rfl))
  have N7 := Fr.snoc X7 N2 gr
  have fa10 := ((R2.other W2 (Or.inr (slot_ne (Or.inr (ow hw 57 rfl)) (Or.inr (ow hw 53 rfl)) (by decide) (t := .boolean) (t' := (.object oS)) (by decide) (by decide)))).other W7 (Or.inr (slot_ne (Or.inr (ow hw 57 rfl)) (Or.inr (ow hw 55 rfl)) (by decide) (t := .boolean) (t' := (.object oS)) (by decide) (by decide))))
  have fa11 := (fa6.wr W7)
  obtain ⟨T12, h12, X12, e12, W12, st12⟩ := putFN X7 hx hZ hown (ow hw 56 rfl) Via.refl e7 fa10 fa11 (Or.inr ⟨(ow hw 57 rfl), rfl, hnm⟩) (ow hw 46 rfl) (ty := .boolean) (v' := (.int (nar .boolean hp))) (by decide) rfl (fits_nar_bool _) (g := (mkF m 16 #[oa r, oa sa_s, oa sa_h, oi hp, oa sa_p, oa sa_q] [(.int hp), (.ref r)])) rfl rfl (hb hby d11_16)
  have fw12 : Fld Z h12 r oU "hostIsIpv4Address" "Z" (.int (nar .boolean hp)) := fa10.same W12
  have Z13 : n0 ≤ h12.size := Nat.le_trans Z8 (Nat.le_of_eq W12.size.symm)
  have K14 : Keep h0 h12 [r] := K9.wr W12 (Or.inl (List.mem_of_getElem? (i := 0) rfl))
  have N12 := Fr.snoc X12 N7 gr
  have fa15 := (((R3.other W2 (Or.inr (slot_ne (Or.inr (ow hw 59 rfl)) (Or.inr (ow hw 53 rfl)) (by decide) (t := (.object oS)) (t' := (.object oS)) (by decide) (by decide)))).other W7 (Or.inr (slot_ne (Or.inr (ow hw 59 rfl)) (Or.inr (ow hw 55 rfl)) (by decide) (t := (.object oS)) (t' := (.object oS)) (by decide) (by decide)))).other W12 (Or.inr (slot_ne (Or.inr (ow hw 59 rfl)) (Or.inr (ow hw 57 rfl)) (by decide) (t := (.object oS)) (t' := .boolean) (by decide) (by decide))))
  have fa16 := (fa11.wr W12)
  obtain ⟨T17, h17, X17, e17, W17, st17⟩ := putF X12 hx hZ hown (host := "") (Or.inl (ow hw 58 rfl)) Via.refl e12 fa15 fa16 (Or.inr ⟨(ow hw 59 rfl), rfl, hnm⟩) (ow hw 46 rfl) (ty := (.object oS)) (by decide) rfl rfl (g := (mkF m 22 #[oa r, oa sa_s, oa sa_h, oi hp, oa sa_p, oa sa_q] [(.ref sa_p), (.ref r)])) rfl rfl (hb hby d11_22)
  have fw17 : Fld Z h17 r oU "path" "Ljava/lang/String;" (.ref sa_p) := fa15.same W17
  have Z18 : n0 ≤ h17.size := Nat.le_trans Z13 (Nat.le_of_eq W17.size.symm)
  have K19 : Keep h0 h17 [r] := K14.wr W17 (Or.inl (List.mem_of_getElem? (i := 0) rfl))
  have N17 := Fr.snoc X17 N12 gr
  have fa20 := ((((R4.other W2 (Or.inr (slot_ne (Or.inr (ow hw 61 rfl)) (Or.inr (ow hw 53 rfl)) (by decide) (t := (.object oS)) (t' := (.object oS)) (by decide) (by decide)))).other W7 (Or.inr (slot_ne (Or.inr (ow hw 61 rfl)) (Or.inr (ow hw 55 rfl)) (by decide) (t := (.object oS)) (t' := (.object oS)) (by decide) (by decide)))).other W12 (Or.inr (slot_ne (Or.inr (ow hw 61 rfl)) (Or.inr (ow hw 57 rfl)) (by decide) (t := (.object oS)) (t' := .boolean) (by decide) (by decide)))).other W17 (Or.inr (slot_ne (Or.inr (ow hw 61 rfl)) (Or.inr (ow hw 59 rfl)) (by decide) (t := (.object oS)) (t' := (.object oS)) (by decide) (by decide))))
  have fa21 := (fa16.wr W17)
  obtain ⟨T22, h22, X22, e22, W22, st22⟩ := putF X17 hx hZ hown (host := "") (Or.inl (ow hw 60 rfl)) Via.refl e17 fa20 fa21 (Or.inr ⟨(ow hw 61 rfl), rfl, hnm⟩) (ow hw 46 rfl) (ty := (.object oS)) (by decide) rfl rfl (g := (mkF m 28 #[oa r, oa sa_s, oa sa_h, oi hp, oa sa_p, oa sa_q] [(.ref sa_q), (.ref r)])) rfl rfl (hb hby d11_28)
  have fw22 : Fld Z h22 r oU "query" "Ljava/lang/String;" (.ref sa_q) := fa20.same W22
  have Z23 : n0 ≤ h22.size := Nat.le_trans Z18 (Nat.le_of_eq W22.size.symm)
  have K24 : Keep h0 h22 [r] := K19.wr W22 (Or.inl (List.mem_of_getElem? (i := 0) rfl))
  have N22 := Fr.snoc X22 N17 gr
  obtain ⟨fsZ, hrZ, hrun, hended, hW, hsame⟩ := X22.leave (v := none) (fun _ => rfl)
  have fa25 := (fa21.wr W22)
  have fa26 := ((((fw2.other W7 (Or.inr (slot_ne (Or.inr (ow hw 53 rfl)) (Or.inr (ow hw 55 rfl)) (by decide) (t := (.object oS)) (t' := (.object oS)) (by decide) (by decide)))).other W12 (Or.inr (slot_ne (Or.inr (ow hw 53 rfl)) (Or.inr (ow hw 57 rfl)) (by decide) (t := (.object oS)) (t' := .boolean) (by decide) (by decide)))).other W17 (Or.inr (slot_ne (Or.inr (ow hw 53 rfl)) (Or.inr (ow hw 59 rfl)) (by decide) (t := (.object oS)) (t' := (.object oS)) (by decide) (by decide)))).other W22 (Or.inr (slot_ne (Or.inr (ow hw 53 rfl)) (Or.inr (ow hw 61 rfl)) (by decide) (t := (.object oS)) (t' := (.object oS)) (by decide) (by decide))))
  have fa27 := (((fw7.other W12 (Or.inr (slot_ne (Or.inr (ow hw 55 rfl)) (Or.inr (ow hw 57 rfl)) (by decide) (t := (.object oS)) (t' := .boolean) (by decide) (by decide)))).other W17 (Or.inr (slot_ne (Or.inr (ow hw 55 rfl)) (Or.inr (ow hw 59 rfl)) (by decide) (t := (.object oS)) (t' := (.object oS)) (by decide) (by decide)))).other W22 (Or.inr (slot_ne (Or.inr (ow hw 55 rfl)) (Or.inr (ow hw 61 rfl)) (by decide) (t := (.object oS)) (t' := (.object oS)) (by decide) (by decide))))
  have fa28 := (fw17.other W22 (Or.inr (slot_ne (Or.inr (ow hw 59 rfl)) (Or.inr (ow hw 61 rfl)) (by decide) (t := (.object oS)) (t' := (.object oS)) (by decide) (by decide))))
  refine ⟨_, _, pre0 _ ?_, hrun, hended, _, _, rfl, ?_, ⟨_, rfl⟩, hW, hsame.mono (by decide) (by decide)⟩
  · show Steps _ _ _ (s₁.setTop (mkF m 0 #[oa r, oa sa_s, oa sa_h, oi hp, oa sa_p, oa sa_q] [])) _
    refine XS.aloadN X0.here hx rfl (hb hby d11_0) rfl rfl ?_
    refine st1 _ ?_
    refine XS.aloadN X1.here hx rfl (hb hby d11_4) rfl rfl ?_
    refine XS.aloadN X1.here hx rfl (hb hby d11_5) rfl rfl ?_
    refine st2 _ ?_
    refine XS.aloadN X2.here hx rfl (hb hby d11_9) rfl rfl ?_
    refine XS.aloadN X2.here hx rfl (hb hby d11_10) rfl rfl ?_
    refine st7 _ ?_
    show Steps _ _ _ (T7.setTop (mkF m 14 #[oa r, oa sa_s, oa sa_h, oi hp, oa sa_p, oa sa_q] [])) _
    refine XS.aloadN X7.here hx rfl (hb hby d11_14) rfl rfl ?_
    refine XS.iloadN X7.here hx rfl (hb hby d11_15) rfl  ?_
    refine st12 _ ?_
    refine XS.aloadN X12.here hx rfl (hb hby d11_19) rfl rfl ?_
    refine XS.aload X12.here hx rfl (hb hby d11_20) rfl rfl ?_
    refine st17 _ ?_
    refine XS.aloadN X17.here hx rfl (hb hby d11_25) rfl rfl ?_
    refine XS.aload X17.here hx rfl (hb hby d11_26) rfl rfl ?_
    show Steps _ _ _ (T17.setTop (mkF m 28 #[oa r, oa sa_s, oa sa_h, oi hp, oa sa_p, oa sa_q] [(.ref sa_q), (.ref r)])) _
    refine st22 _ ?_
    show Steps _ _ _ (T22.setTop (mkF m 31 #[oa r, oa sa_s, oa sa_h, oi hp, oa sa_p, oa sa_q] [])) _
    exact X22.returnOut hx Bd.returns (hb hby d11_31) hrZ
  · show Q11q Z r sa_s sa_h hp sa_p sa_q wv0 wv1 wv2 wv3 wv4 h0 n0 _ T22.heap _
    rw [e22]
    exact ⟨rfl, N22, K24, fa25, fa26, fa27, fa28, fw22⟩
theorem own_wS {Z : State} {a0 : Array Value} (hw : ∀ d ∈ tables_1, d.before a0 Z = true) : ∀ d ∈ Bundle.stringAtoms, d.before a0 Z = true := fun d hd => by
    rcases List.mem_cons.mp hd with rfl | hd
    · exact (ow hw 3 rfl)
    rcases List.mem_cons.mp hd with rfl | hd
    · exact (ow hw 11 rfl)
    rcases List.mem_cons.mp hd with rfl | hd
    · exact (ow hw 15 rfl)
    rcases List.mem_cons.mp hd with rfl | hd
    · exact (ow hw 24 rfl)
    rcases List.mem_cons.mp hd with rfl | hd
    · exact (ow hw 26 rfl)
    rcases List.mem_cons.mp hd with rfl | hd
    · exact (ow hw 133 rfl)
    rcases List.mem_cons.mp hd with rfl | hd
    · exact (ow hw 134 rfl)
    exact nomatch hd
theorem d12_0 : decode prog_1_method_7_code 0 = .ok (.new 26, 3) := by decide +kernel
theorem d12_3 : decode prog_1_method_7_code 3 = .ok (.dup, 1) := by decide +kernel
theorem d12_4 : decode prog_1_method_7_code 4 = .ok (.invokespecial 28, 3) := by decide +kernel
theorem d12_7 : decode prog_1_method_7_code 7 = .ok (.aload_n 0, 1) := by decide +kernel
theorem d12_8 : decode prog_1_method_7_code 8 = .ok (.getfield 7, 3) := by decide +kernel
theorem d12_11 : decode prog_1_method_7_code 11 = .ok (.invokevirtual 29, 3) := by decide +kernel
theorem pd41 : parseMethodDescriptor "(Ljava/lang/String;)Ljava/lang/StringBuilder;" = some ⟨[(.object oS)], some (.object oB)⟩ := by decide +kernel
theorem d12_14 : decode prog_1_method_7_code 14 = .ok (.ldc 33, 2) := by decide +kernel
theorem d12_16 : decode prog_1_method_7_code 16 = .ok (.invokevirtual 29, 3) := by decide +kernel
theorem d12_19 : decode prog_1_method_7_code 19 = .ok (.aload_n 0, 1) := by decide +kernel
theorem d12_20 : decode prog_1_method_7_code 20 = .ok (.getfield 13, 3) := by decide +kernel
theorem d12_23 : decode prog_1_method_7_code 23 = .ok (.invokevirtual 29, 3) := by decide +kernel
theorem d12_26 : decode prog_1_method_7_code 26 = .ok (.aload_n 0, 1) := by decide +kernel
theorem d12_27 : decode prog_1_method_7_code 27 = .ok (.getfield 20, 3) := by decide +kernel
theorem d12_30 : decode prog_1_method_7_code 30 = .ok (.invokevirtual 29, 3) := by decide +kernel
theorem d12_33 : decode prog_1_method_7_code 33 = .ok (.invokevirtual 35, 3) := by decide +kernel
theorem pd42 : parseMethodDescriptor "()Ljava/lang/String;" = some ⟨[], some (.object oS)⟩ := by decide +kernel
theorem d12_36 : decode prog_1_method_7_code 36 = .ok (.astore_n 1, 1) := by decide +kernel
theorem d12_37 : decode prog_1_method_7_code 37 = .ok (.aload_n 0, 1) := by decide +kernel
theorem d12_38 : decode prog_1_method_7_code 38 = .ok (.getfield 23, 3) := by decide +kernel
theorem d12_41 : decode prog_1_method_7_code 41 = .ok (.ifnonnull 7, 3) := by decide +kernel
theorem d12_44 : decode prog_1_method_7_code 44 = .ok (.aload_n 1, 1) := by decide +kernel
theorem d12_45 : decode prog_1_method_7_code 45 = .ok (.goto 29, 3) := by decide +kernel
theorem d12_74 : decode prog_1_method_7_code 74 = .ok (.areturn, 1) := by decide +kernel
theorem ef12n (m : MethodId) (r : Addr) : entryFrame m #[(.ref r)] 2 = mkF m 0 #[oa r, .unset] [] := by first | (simp [entryFrame, mkF, argsToLocals, Value.category]; done) | rfl
def Q12n (Z : State) (r : Addr) (sa_s : Addr) (vb_s : Addr) (kb_s : ClassId) (kc_s : Int32) (nb_s : Int32) (vs_s : List Value) (u_s : List Int32) (sa_h : Addr) (vb_h : Addr) (kb_h : ClassId) (kc_h : Int32) (nb_h : Int32) (vs_h : List Value) (u_h : List Int32) (sa_p : Addr) (vb_p : Addr) (kb_p : ClassId) (kc_p : Int32) (nb_p : Int32) (vs_p : List Value) (u_p : List Int32) (cs : Int32) (fm : Value) (h0 : Heap) (n0 : Nat) (v : Option Value) (h : Heap) (L : List Loc) : Prop := ∃ (sr : Addr) (vb : Addr) (kb : ClassId) (kc : Int32) (nb : Int32) (vs : List Value), v = some (.ref sr) ∧ Fr n0 L ∧ Keep h0 h [] ∧ own_enc (((([] ++ u_s) ++ [58, 47, 47]) ++ u_h) ++ u_p) kc nb vs ∧ Exa Z h sr oS ∧ Fld Z h sr oS "coder" "B" (.int kc) ∧ Fld Z h sr oS "value" "[B" (.ref vb) ∧ Arv Z h vb kb .byte nb vs (.int 0)
theorem rm12n (l : Launch) (Z : State) (a0 : Array Value) (hw : ∀ d ∈ tables_1, d.before a0 Z = true) (ws : List Jvm.Cond) (r : Addr) (sa_s : Addr) (vb_s : Addr) (kb_s : ClassId) (kc_s : Int32) (nb_s : Int32) (vs_s : List Value) (u_s : List Int32) (sa_h : Addr) (vb_h : Addr) (kb_h : ClassId) (kc_h : Int32) (nb_h : Int32) (vs_h : List Value) (u_h : List Int32) (sa_p : Addr) (vb_p : Addr) (kb_p : ClassId) (kc_p : Int32) (nb_p : Int32) (vs_p : List Value) (u_p : List Int32) (cs : Int32) (fm : Value) (h0 : Heap) (n0 : Nat) (Z0 : n0 ≤ h0.size) (Er : Exa Z h0 r oU) (Rs : Fld Z h0 r oU "scheme" "Ljava/lang/String;" (.ref sa_s)) (Rh : Fld Z h0 r oU "host" "Ljava/lang/String;" (.ref sa_h)) (Rp : Fld Z h0 r oU "path" "Ljava/lang/String;" (.ref sa_p)) (Rq : Fld Z h0 r oU "query" "Ljava/lang/String;" .null) (Ss0 : Exa Z h0 sa_s oS) (Ss1 : Fld Z h0 sa_s oS "coder" "B" (.int kc_s)) (Ss2 : Fld Z h0 sa_s oS "value" "[B" (.ref vb_s)) (Ss3 : Arv Z h0 vb_s kb_s .byte nb_s vs_s (.int 0)) (Sh0 : Exa Z h0 sa_h oS) (Sh1 : Fld Z h0 sa_h oS "coder" "B" (.int kc_h)) (Sh2 : Fld Z h0 sa_h oS "value" "[B" (.ref vb_h)) (Sh3 : Arv Z h0 vb_h kb_h .byte nb_h vs_h (.int 0)) (Sp0 : Exa Z h0 sa_p oS) (Sp1 : Fld Z h0 sa_p oS "coder" "B" (.int kc_p)) (Sp2 : Fld Z h0 sa_p oS "value" "[B" (.ref vb_p)) (Sp3 : Arv Z h0 vb_p kb_p .byte nb_p vs_p (.int 0)) (he_s : own_enc u_s kc_s nb_s vs_s) (he_h : own_enc u_h kc_h nb_h vs_h) (he_p : own_enc u_p kc_p nb_p vs_p) (hsm : u_s.length + 3 + u_h.length + u_p.length < 16) (Cs : Sta Z Z.heap oS "COMPACT_STRINGS" "Z" (.int cs)) (hcs : ¬ (cs = (0 : Int32))) (Ox : Old Z n0 h0) (Fm : Sta Z Z.heap "jdk/internal/util/Preconditions" "SIOOBE_FORMATTER" "Ljava/util/function/BiFunction;" fm) (hfm : fm.isRef = true) (Ua : Sta Z Z.heap o6 "$assertionsDisabled" "Z" (.int 1)) (Uh : Sta Z Z.heap o6 "HI_BYTE_SHIFT" "I" (.int 0)) (Ul : Sta Z Z.heap o6 "LO_BYTE_SHIFT" "I" (.int 8)) :
    MetFree l oM51 (head1 (Jvm.Cond.code oM51 prog_1_method_7_code 2 (some (.object oS)) :: ws) oR41) (fun a U => a = #[(.ref r)] ∧ Z.Warmed39 U.vm ∧ U.heap = h0 ∧ CHv Z own_EL U.vm h0) (fun _ _ _ _ _ => True) (fun _ U o U' => ∃ v L, o = .returned v ∧ Q12n Z r sa_s vb_s kb_s kc_s nb_s vs_s u_s sa_h vb_h kb_h kc_h nb_h vs_h u_h sa_p vb_p kb_p kc_p nb_p vs_p u_p cs fm h0 n0 v U'.heap L ∧ CHr Z own_EL U.vm U.heap U'.vm U'.heap ∧ ReturnedEndW U o U' L oR41.cells oR41.slots) := by
  refine MetFree.of_bodySF (plainFor_of_name pn40) hisR ?_
  intro p e s m args below meth c s₁ Bd hml0 hP hK
  obtain ⟨rfl, hZ, hh, hCH⟩ := hP
  have hx := Bd.exec
  have hby := Bd.bytes
  have hml : c.maxLocals = 2 := hml0
  have hown : s.vm.findClass oU = some m.cls := findClass_of_methodNamed Bd.named
  have X0 : Stand p l e oR41 s m #[(.ref r)] below meth c s₁ [] 0 0 := Stand.of_body Bd
  have e0 : s₁.heap = h0 := by rw [← hh, Bd.state]; rfl
  have N0 := Fr.nil n0
  have X0 : Stand p l e oR41 (s.setVm s.vm) m #[(.ref r)] below meth c s₁ [] 0 0 := X0
  have hS0 : s.Since s.vm h0.size := (State.WarmedH.refl s).since _
  have hk0 : h0.size ≤ h0.size := Nat.le_refl _
  have hwS := own_wS hw
  have hEL : EW Z a0 own_EL := own_ew hw
  have ch0 := CHr.refl hCH
  have pre0 := own_pre (p := p) (e := e) (below := below) (s₁ := s₁) (ef12n m r)
  obtain ⟨T1, h1, X1, e1, E1, A1, D1, -, st1⟩ := newO X0 hx hZ hown (ow hw 67 rfl) (ow hw 68 rfl) (ow hw 69 rfl) e0 (g := (mkF m 0 #[oa r, .unset] [])) rfl (hb hby d12_0) (by decide) (by decide)
  obtain ⟨b1, g1⟩ : ∃ z, z = h0.size := ⟨_, rfl⟩
  rw [← g1] at A1 D1 st1
  have ne2 := own_nb Er.lt g1
  have ne3 := own_nb Ss0.lt g1
  have ne4 := own_nb Ss3.lt g1
  have ne5 := own_nb Sh0.lt g1
  have ne6 := own_nb Sh3.lt g1
  have ne7 := own_nb Sp0.lt g1
  have ne8 := own_nb Sp3.lt g1
  have gn_b1 : n0 ≤ b1 := Nat.le_trans Z0 (Nat.le_of_eq g1.symm)
  have sz_b1 : h0.size ≤ b1 := Nat.le_trans (Keep.refl h0 []).1 (Nat.le_of_eq g1.symm)
  have hk9 := Nat.le_trans hk0 E1.1
  have Z10 : n0 ≤ h1.size := Nat.le_trans Z0 E1.1
  have K11 : Keep h0 h1 [] := (Keep.refl h0 []).ext E1
  have F_value_b1 : Fld Z h1 b1 oA "value" "[B" .null := D1 (Or.inl (ow hw 82 rfl)) (ty := (.array .byte)) (by decide)
  have F_coder_b1 : Fld Z h1 b1 oA "coder" "B" (.int 0) := D1 (Or.inl (ow hw 84 rfl)) (ty := .byte) (by decide)
  have F_count_b1 : Fld Z h1 b1 oA "count" "I" (.int 0) := D1 (Or.inl (ow hw 106 rfl)) (ty := .int) (by decide)
  have F_maybeLatin1_b1 : Fld Z h1 b1 oA "maybeLatin1" "Z" (.int 0) := D1 (Or.inl (ow hw 255 rfl)) (ty := .boolean) (by decide)
  have fa12 := (Ox.ext E1)
  obtain ⟨_, _, ⟨T13, L13, k13, n13⟩, -, X13, ⟨Lc13, hQ13, l13, y13, z13⟩, st13⟩ := X1.specialBack hx (y := oM29) rfl hown (mvT hZ (ow hw 70 rfl)) (mvT hZ (ow hw 71 rfl)) (mvT hZ (ow hw 72 rfl)) (by decide) (backOf (W := 1) (rm13 l Z a0 hw [] b1 .null (.int 0) cs h1 n0 Z10 A1 F_value_b1 F_coder_b1 F_count_b1 F_maybeLatin1_b1 gn_b1 Cs hcs fa12) hZ (ow hw 72 rfl) (ow hw 69 rfl) (by decide) (by decide)) (g := (mkF m 4 #[oa r, .unset] [(.ref b1), (.ref b1)])) rfl (by rw [hml]; rfl) (Steps.refl _) (a := b1) (argsL := []) (rest := [(.ref b1)]) (lenOf pd28 rfl) rfl (Nat.le_of_eq rfl) (hb hby d12_4) (fun _ _ => ⟨rfl, e1, (by decide : 1 + 1 ≤ _), (by decide : 4 + 16 ≤ _)⟩)
  dsimp only [Pt.U, Pt.locs, Pt.cells, Pt.slots] at X13 l13 y13 z13 st13 hQ13
  subst l13 y13 z13
  obtain ⟨va_14, kv_15, rfl, N13q, K13, u13_0, u13_1, f13_0, f13_1, f13_2, f13_3, f13_4, f13_5⟩ := hQ13
  have N13 := Fr.app N0 N13q
  have hk16 := Nat.le_trans hk9 K13.1
  have Z17 : n0 ≤ T13.heap.size := Nat.le_trans Z10 K13.1
  have K18 : Keep h0 T13.heap [] := K11.trans K13 (allS (P := fun x => x ∈ _ ∨ _) (Or.inr sz_b1) all0)
  have ne19 := own_nc (Er.ext E1).lt u13_1
  have ne20 := own_nc (Ss0.ext E1).lt u13_1
  have ne21 := own_nc (Ss3.ext E1).lt u13_1
  have ne22 := own_nc (Sh0.ext E1).lt u13_1
  have ne23 := own_nc (Sh3.ext E1).lt u13_1
  have ne24 := own_nc (Sp0.ext E1).lt u13_1
  have ne25 := own_nc (Sp3.ext E1).lt u13_1
  have ne26 := own_nc A1.lt u13_1
  have sz_va_14 : h0.size ≤ va_14 := Nat.le_trans K11.1 u13_1
  have fa27 := ((Rs.ext E1).keep K13 (ninS ne2 nin0))
  obtain ⟨T28, X28, e28, st28⟩ := getF X13 hx hZ hown (host := "") (Or.inl (ow hw 52 rfl)) Via.refl rfl fa27 (g := (mkF m 8 #[oa r, .unset] [(.ref r), (.ref b1)])) rfl rfl (hb hby d12_8)
  have fa29 := ((Ss0.ext E1).keep K13)
  have fa30 := ((Ss1.ext E1).keep K13 (ninS ne3 nin0))
  have fa31 := ((Ss2.ext E1).keep K13 (ninS ne3 nin0))
  have fa32 := ((Ss3.ext E1).keep K13 (ninS ne4 nin0))
  have fa33 := (fa12.keep K13 (allS (P := fun x => n0 ≤ x) gn_b1 all0))
  obtain ⟨cq34, kq34, q34a, q34b, q34c⟩ := isOf hZ e28 f13_0
  obtain ⟨_, _, ⟨T34, L34, k34, n34⟩, -, X34, ⟨Lc34, hQ34, l34, y34, z34⟩, st34⟩ := X28.virtualBack hx (y := oM39) (z := oM39) hown (mvT hZ (ow hw 85 rfl)) (mvT hZ (ow hw 86 rfl)) (notFace_of_selects (args := #[]) (mvT hZ (ow hw 88 rfl))) (mvT hZ (ow hw 88 rfl)) (mvT hZ (ow hw 87 rfl)) (by decide) (backOf (W := 0) (rm15 l Z a0 hw [] b1 sa_s va_14 kv_15 (0 : Int32) (16 : Int32) [] (0 : Int32) vb_s kb_s kc_s nb_s vs_s [] u_s cs fm T13.heap n0 Z17 f13_0 f13_1 f13_2 f13_3 f13_4 f13_5 fa29 fa30 fa31 fa32 gn_b1 u13_0 ne26 ne3 ne20 ne4 ne21 own_sb0 he_s (by decide) (by simp only [List.length_append, List.length_cons, List.length_nil]; omega) Cs hcs fa33 Fm hfm Ua Uh Ul) hZ (ow hw 89 rfl) (ow hw 69 rfl) (by decide) (by decide)) q34a q34c (g := (mkF m 11 #[oa r, .unset] [(.ref sa_s), (.ref b1)])) rfl (by rw [hml]; rfl) (Steps.refl _) (argsL := [(.ref sa_s)]) (rest := []) (lenOf pd41 rfl) rfl (Nat.le_of_eq rfl) (hb hby d12_11) (fun _ _ => ⟨rfl, e28, (by decide : 2 + 1 ≤ _), (by decide : 20 + 32 ≤ _)⟩)
  dsimp only [Pt.U, Pt.locs, Pt.cells, Pt.slots] at X34 l34 y34 z34 st34 hQ34
  subst l34 y34 z34
  obtain ⟨va2_35, kv2_36, bc2_37, nv2_38, xs2_39, cn2_40, rfl, N34q, K34, u34_0, u34_1, u34_2, u34_3, u34_4, f34_0, f34_1, f34_2, f34_3, f34_4, f34_5⟩ := hQ34
  have N34 := Fr.app N13 N34q
  have hk41 := Nat.le_trans hk16 K34.1
  have Z42 : n0 ≤ T34.heap.size := Nat.le_trans Z17 K34.1
  have K43 : Keep h0 T34.heap [] := K18.trans K34 (allS (P := fun x => x ∈ _ ∨ _) (Or.inr sz_b1) (allS (P := fun x => x ∈ _ ∨ _) (Or.inr sz_va_14) all0))
  have ne44 : r ≠ va2_35 := own_nev u34_2 ne19 ((Er.ext E1).keep K13).lt
  have ne45 : sa_s ≠ va2_35 := own_nev u34_2 ne20 fa29.lt
  have ne46 : vb_s ≠ va2_35 := own_nev u34_2 ne21 fa32.lt
  have ne47 : sa_h ≠ va2_35 := own_nev u34_2 ne22 ((Sh0.ext E1).keep K13).lt
  have ne48 : vb_h ≠ va2_35 := own_nev u34_2 ne23 ((Sh3.ext E1).keep K13 (ninS ne6 nin0)).lt
  have ne49 : sa_p ≠ va2_35 := own_nev u34_2 ne24 ((Sp0.ext E1).keep K13).lt
  have ne50 : vb_p ≠ va2_35 := own_nev u34_2 ne25 ((Sp3.ext E1).keep K13 (ninS ne8 nin0)).lt
  have sz_va2_35 : h0.size ≤ va2_35 := own_szv u34_2 sz_va_14 K18.1
  have ch52 := ch0.trans (CHr.ext E1 ch0.1)
  have sf53 := (Safe.new (Nat.le_of_eq g1.symm) : Safe Z own_EL s.vm _ b1)
  have sf54 := Safe.ext E1 ch0.1 sf53
  have ch55 := ch52.trans (CHr.keep K13 (own_aS sf54 all0) ch52.1)
  have sf56 := (Safe.new u13_1 : Safe Z own_EL s.vm _ va_14)
  have sf57 := Safe.keep K13 (own_aS sf54 all0) ch52.1 sf56
  have sf58 := Safe.keep K13 (own_aS sf54 all0) ch52.1 sf54
  have ch59 := ch55.trans (CHr.keep K34 (own_aS sf58 (own_aS sf57 all0)) ch55.1)
  have sf60 := Safe.keep K34 (own_aS sf58 (own_aS sf57 all0)) ch55.1 sf58
  have sf61 := own_sfv u34_2 sf57
  have sf62 := Safe.keep K34 (own_aS sf58 (own_aS sf57 all0)) ch55.1 sf61
  obtain ⟨b51, T51, h51, k51, vb51, kb51, X51, e51, E51, hS51, hk51, hZ, hown, fe51, fc51, fv51, fr51, -, -, hC51, -, hne51, st51⟩ := ldcCH X34 hx hZ hown (ow hw 132 rfl) hwS rfl hS0 hk41 hEL (List.mem_of_getElem? (i := 0) rfl) ch59.1 (vs := (own_lb [58, 47, 47])) (z := (3 : Int32)) own_t3 (by decide) rfl (g := (mkF m 14 #[oa r, .unset] [(.ref b1)])) rfl (hb hby d12_14) (n := 12) (by decide) (by decide) (by decide) (by decide)
  have Z63 : n0 ≤ h51.size := Nat.le_trans Z42 E51.1
  have K64 : Keep h0 h51 [] := K43.ext E51
  have sf66 := CHr.safe hC51 f34_0.lt sf60
  have ne65 := hne51 b1 sf66
  have sf68 := CHr.safe hC51 f34_5.lt sf62
  have ne67 := hne51 va2_35 sf68
  have fa69 := (f34_0.ext E51)
  have fa70 := (f34_1.ext E51)
  have fa71 := (f34_2.ext E51)
  have fa72 := (f34_3.ext E51)
  have fa73 := (f34_4.ext E51)
  have fa74 := (f34_5.ext E51)
  have fa75 := ((fa33.keep K34 (allS (P := fun x => n0 ≤ x) gn_b1 (allS (P := fun x => n0 ≤ x) u13_0 all0))).ext E51)
  obtain ⟨cq76, kq76, q76a, q76b, q76c⟩ := isOf hZ e51 fa69
  obtain ⟨_, _, ⟨T76, L76, k76, n76⟩, -, X76, ⟨Lc76, hQ76, l76, y76, z76⟩, st76⟩ := X51.virtualBack hx (y := oM39) (z := oM39) hown (mvT hZ (ow hw 85 rfl)) (mvT hZ (ow hw 86 rfl)) (notFace_of_selects (args := #[]) (mvT hZ (ow hw 88 rfl))) (mvT hZ (ow hw 88 rfl)) (mvT hZ (ow hw 87 rfl)) (by decide) (backOf (W := 0) (rm15 l Z a0 hw [] b1 b51 va2_35 kv2_36 bc2_37 nv2_38 xs2_39 cn2_40 vb51 kb51 (0 : Int32) (3 : Int32) (own_lb [58, 47, 47]) ([] ++ u_s) [58, 47, 47] cs fm h51 n0 Z63 fa69 fa70 fa71 fa72 fa73 fa74 fe51 fc51 fv51 fr51 gn_b1 u34_0 u34_1 (Ne.symm ne65.1) (Ne.symm ne67.1) (Ne.symm ne65.2) (Ne.symm ne67.2) (by first | assumption | decide | omega) own_k3 (by first | assumption | decide | omega) (by simp only [List.length_append, List.length_cons, List.length_nil]; omega) Cs hcs fa75 Fm hfm Ua Uh Ul) hZ (ow hw 89 rfl) (ow hw 69 rfl) (by decide) (by decide)) q76a q76c (g := (mkF m 16 #[oa r, .unset] [(.ref b51), (.ref b1)])) rfl (by rw [hml]; rfl) (Steps.refl _) (argsL := [(.ref b51)]) (rest := []) (lenOf pd41 rfl) rfl (Nat.le_of_eq rfl) (hb hby d12_16) (fun _ _ => ⟨rfl, e51, (by decide : 5 + 1 ≤ _), (by decide : 68 + 32 ≤ _)⟩)
  dsimp only [Pt.U, Pt.locs, Pt.cells, Pt.slots] at X76 l76 y76 z76 st76 hQ76
  subst l76 y76 z76
  obtain ⟨va2_77, kv2_78, bc2_79, nv2_80, xs2_81, cn2_82, rfl, N76q, K76, u76_0, u76_1, u76_2, u76_3, u76_4, f76_0, f76_1, f76_2, f76_3, f76_4, f76_5⟩ := hQ76
  have N76 := Fr.app N34 N76q
  have hk83 := Nat.le_trans hk51 K76.1
  have Z84 : n0 ≤ T76.heap.size := Nat.le_trans Z63 K76.1
  have K85 : Keep h0 T76.heap [] := K64.trans K76 (allS (P := fun x => x ∈ _ ∨ _) (Or.inr sz_b1) (allS (P := fun x => x ∈ _ ∨ _) (Or.inr sz_va2_35) all0))
  have ne86 : r ≠ va2_77 := own_nev u76_2 ne44 ((((Er.ext E1).keep K13).keep K34).ext E51).lt
  have ne87 : sa_s ≠ va2_77 := own_nev u76_2 ne45 ((fa29.keep K34).ext E51).lt
  have ne88 : vb_s ≠ va2_77 := own_nev u76_2 ne46 ((fa32.keep K34 (ninS ne4 (ninS ne21 nin0))).ext E51).lt
  have ne89 : sa_h ≠ va2_77 := own_nev u76_2 ne47 ((((Sh0.ext E1).keep K13).keep K34).ext E51).lt
  have ne90 : vb_h ≠ va2_77 := own_nev u76_2 ne48 ((((Sh3.ext E1).keep K13 (ninS ne6 nin0)).keep K34 (ninS ne6 (ninS ne23 nin0))).ext E51).lt
  have ne91 : sa_p ≠ va2_77 := own_nev u76_2 ne49 ((((Sp0.ext E1).keep K13).keep K34).ext E51).lt
  have ne92 : vb_p ≠ va2_77 := own_nev u76_2 ne50 ((((Sp3.ext E1).keep K13 (ninS ne8 nin0)).keep K34 (ninS ne8 (ninS ne25 nin0))).ext E51).lt
  have ne93 : b51 ≠ va2_77 := own_nev u76_2 (Ne.symm ne67.1) fe51.lt
  have ne94 : vb51 ≠ va2_77 := own_nev u76_2 (Ne.symm ne67.2) fr51.lt
  have sz_va2_77 : h0.size ≤ va2_77 := own_szv u76_2 sz_va2_35 K64.1
  have fa95 := (((((Rh.ext E1).keep K13 (ninS ne2 nin0)).keep K34 (ninS ne2 (ninS ne19 nin0))).ext E51).keep K76 (ninS ne2 (ninS ne44 nin0)))
  obtain ⟨T96, X96, e96, st96⟩ := getF X76 hx hZ hown (host := "") (Or.inl (ow hw 54 rfl)) Via.refl rfl fa95 (g := (mkF m 20 #[oa r, .unset] [(.ref r), (.ref b1)])) rfl rfl (hb hby d12_20)
  have fa97 := (((((Sh0.ext E1).keep K13).keep K34).ext E51).keep K76)
  have fa98 := (((((Sh1.ext E1).keep K13 (ninS ne5 nin0)).keep K34 (ninS ne5 (ninS ne22 nin0))).ext E51).keep K76 (ninS ne5 (ninS ne47 nin0)))
  have fa99 := (((((Sh2.ext E1).keep K13 (ninS ne5 nin0)).keep K34 (ninS ne5 (ninS ne22 nin0))).ext E51).keep K76 (ninS ne5 (ninS ne47 nin0)))
  have fa100 := (((((Sh3.ext E1).keep K13 (ninS ne6 nin0)).keep K34 (ninS ne6 (ninS ne23 nin0))).ext E51).keep K76 (ninS ne6 (ninS ne48 nin0)))
  have fa101 := (fa75.keep K76 (allS (P := fun x => n0 ≤ x) gn_b1 (allS (P := fun x => n0 ≤ x) u34_0 all0)))
  obtain ⟨cq102, kq102, q102a, q102b, q102c⟩ := isOf hZ e96 f76_0
  obtain ⟨_, _, ⟨T102, L102, k102, n102⟩, -, X102, ⟨Lc102, hQ102, l102, y102, z102⟩, st102⟩ := X96.virtualBack hx (y := oM39) (z := oM39) hown (mvT hZ (ow hw 85 rfl)) (mvT hZ (ow hw 86 rfl)) (notFace_of_selects (args := #[]) (mvT hZ (ow hw 88 rfl))) (mvT hZ (ow hw 88 rfl)) (mvT hZ (ow hw 87 rfl)) (by decide) (backOf (W := 0) (rm15 l Z a0 hw [] b1 sa_h va2_77 kv2_78 bc2_79 nv2_80 xs2_81 cn2_82 vb_h kb_h kc_h nb_h vs_h (([] ++ u_s) ++ [58, 47, 47]) u_h cs fm T76.heap n0 Z84 f76_0 f76_1 f76_2 f76_3 f76_4 f76_5 fa97 fa98 fa99 fa100 gn_b1 u76_0 u76_1 ne5 ne89 ne6 ne90 (by first | assumption | decide | omega) he_h (by first | assumption | decide | omega) (by simp only [List.length_append, List.length_cons, List.length_nil]; omega) Cs hcs fa101 Fm hfm Ua Uh Ul) hZ (ow hw 89 rfl) (ow hw 69 rfl) (by decide) (by decide)) q102a q102c (g := (mkF m 23 #[oa r, .unset] [(.ref sa_h), (.ref b1)])) rfl (by rw [hml]; rfl) (Steps.refl _) (argsL := [(.ref sa_h)]) (rest := []) (lenOf pd41 rfl) rfl (Nat.le_of_eq rfl) (hb hby d12_23) (fun _ _ => ⟨rfl, e96, (by decide : 6 + 1 ≤ _), (by decide : 100 + 32 ≤ _)⟩)
  dsimp only [Pt.U, Pt.locs, Pt.cells, Pt.slots] at X102 l102 y102 z102 st102 hQ102
  subst l102 y102 z102
  obtain ⟨va2_103, kv2_104, bc2_105, nv2_106, xs2_107, cn2_108, rfl, N102q, K102, u102_0, u102_1, u102_2, u102_3, u102_4, f102_0, f102_1, f102_2, f102_3, f102_4, f102_5⟩ := hQ102
  have N102 := Fr.app N76 N102q
  have hk109 := Nat.le_trans hk83 K102.1
  have Z110 : n0 ≤ T102.heap.size := Nat.le_trans Z84 K102.1
  have K111 : Keep h0 T102.heap [] := K85.trans K102 (allS (P := fun x => x ∈ _ ∨ _) (Or.inr sz_b1) (allS (P := fun x => x ∈ _ ∨ _) (Or.inr sz_va2_77) all0))
  have ne112 : r ≠ va2_103 := own_nev u102_2 ne86 (((((Er.ext E1).keep K13).keep K34).ext E51).keep K76).lt
  have ne113 : sa_s ≠ va2_103 := own_nev u102_2 ne87 (((fa29.keep K34).ext E51).keep K76).lt
  have ne114 : vb_s ≠ va2_103 := own_nev u102_2 ne88 (((fa32.keep K34 (ninS ne4 (ninS ne21 nin0))).ext E51).keep K76 (ninS ne4 (ninS ne46 nin0))).lt
  have ne115 : sa_h ≠ va2_103 := own_nev u102_2 ne89 fa97.lt
  have ne116 : vb_h ≠ va2_103 := own_nev u102_2 ne90 fa100.lt
  have ne117 : sa_p ≠ va2_103 := own_nev u102_2 ne91 (((((Sp0.ext E1).keep K13).keep K34).ext E51).keep K76).lt
  have ne118 : vb_p ≠ va2_103 := own_nev u102_2 ne92 (((((Sp3.ext E1).keep K13 (ninS ne8 nin0)).keep K34 (ninS ne8 (ninS ne25 nin0))).ext E51).keep K76 (ninS ne8 (ninS ne50 nin0))).lt
  have ne119 : b51 ≠ va2_103 := own_nev u102_2 ne93 (fe51.keep K76).lt
  have ne120 : vb51 ≠ va2_103 := own_nev u102_2 ne94 (fr51.keep K76 (ninS (Ne.symm ne65.2) (ninS (Ne.symm ne67.2) nin0))).lt
  have sz_va2_103 : h0.size ≤ va2_103 := own_szv u102_2 sz_va2_77 K85.1
  have fa121 := ((((((Rp.ext E1).keep K13 (ninS ne2 nin0)).keep K34 (ninS ne2 (ninS ne19 nin0))).ext E51).keep K76 (ninS ne2 (ninS ne44 nin0))).keep K102 (ninS ne2 (ninS ne86 nin0)))
  obtain ⟨T122, X122, e122, st122⟩ := getF X102 hx hZ hown (host := "") (Or.inl (ow hw 58 rfl)) Via.refl rfl fa121 (g := (mkF m 27 #[oa r, .unset] [(.ref r), (.ref b1)])) rfl rfl (hb hby d12_27)
  have fa123 := ((((((Sp0.ext E1).keep K13).keep K34).ext E51).keep K76).keep K102)
  have fa124 := ((((((Sp1.ext E1).keep K13 (ninS ne7 nin0)).keep K34 (ninS ne7 (ninS ne24 nin0))).ext E51).keep K76 (ninS ne7 (ninS ne49 nin0))).keep K102 (ninS ne7 (ninS ne91 nin0)))
  have fa125 := ((((((Sp2.ext E1).keep K13 (ninS ne7 nin0)).keep K34 (ninS ne7 (ninS ne24 nin0))).ext E51).keep K76 (ninS ne7 (ninS ne49 nin0))).keep K102 (ninS ne7 (ninS ne91 nin0)))
  have fa126 := ((((((Sp3.ext E1).keep K13 (ninS ne8 nin0)).keep K34 (ninS ne8 (ninS ne25 nin0))).ext E51).keep K76 (ninS ne8 (ninS ne50 nin0))).keep K102 (ninS ne8 (ninS ne92 nin0)))
  have fa127 := (fa101.keep K102 (allS (P := fun x => n0 ≤ x) gn_b1 (allS (P := fun x => n0 ≤ x) u76_0 all0)))
  obtain ⟨cq128, kq128, q128a, q128b, q128c⟩ := isOf hZ e122 f102_0
  obtain ⟨_, _, ⟨T128, L128, k128, n128⟩, -, X128, ⟨Lc128, hQ128, l128, y128, z128⟩, st128⟩ := X122.virtualBack hx (y := oM39) (z := oM39) hown (mvT hZ (ow hw 85 rfl)) (mvT hZ (ow hw 86 rfl)) (notFace_of_selects (args := #[]) (mvT hZ (ow hw 88 rfl))) (mvT hZ (ow hw 88 rfl)) (mvT hZ (ow hw 87 rfl)) (by decide) (backOf (W := 0) (rm15 l Z a0 hw [] b1 sa_p va2_103 kv2_104 bc2_105 nv2_106 xs2_107 cn2_108 vb_p kb_p kc_p nb_p vs_p ((([] ++ u_s) ++ [58, 47, 47]) ++ u_h) u_p cs fm T102.heap n0 Z110 f102_0 f102_1 f102_2 f102_3 f102_4 f102_5 fa123 fa124 fa125 fa126 gn_b1 u102_0 u102_1 ne7 ne117 ne8 ne118 (by first | assumption | decide | omega) he_p (by first | assumption | decide | omega) (by simp only [List.length_append, List.length_cons, List.length_nil]; omega) Cs hcs fa127 Fm hfm Ua Uh Ul) hZ (ow hw 89 rfl) (ow hw 69 rfl) (by decide) (by decide)) q128a q128c (g := (mkF m 30 #[oa r, .unset] [(.ref sa_p), (.ref b1)])) rfl (by rw [hml]; rfl) (Steps.refl _) (argsL := [(.ref sa_p)]) (rest := []) (lenOf pd41 rfl) rfl (Nat.le_of_eq rfl) (hb hby d12_30) (fun _ _ => ⟨rfl, e122, (by decide : 7 + 1 ≤ _), (by decide : 132 + 32 ≤ _)⟩)
  dsimp only [Pt.U, Pt.locs, Pt.cells, Pt.slots] at X128 l128 y128 z128 st128 hQ128
  subst l128 y128 z128
  obtain ⟨va2_129, kv2_130, bc2_131, nv2_132, xs2_133, cn2_134, rfl, N128q, K128, u128_0, u128_1, u128_2, u128_3, u128_4, f128_0, f128_1, f128_2, f128_3, f128_4, f128_5⟩ := hQ128
  have N128 := Fr.app N102 N128q
  have hk135 := Nat.le_trans hk109 K128.1
  have Z136 : n0 ≤ T128.heap.size := Nat.le_trans Z110 K128.1
  have K137 : Keep h0 T128.heap [] := K111.trans K128 (allS (P := fun x => x ∈ _ ∨ _) (Or.inr sz_b1) (allS (P := fun x => x ∈ _ ∨ _) (Or.inr sz_va2_103) all0))
  have ne138 : r ≠ va2_129 := own_nev u128_2 ne112 ((((((Er.ext E1).keep K13).keep K34).ext E51).keep K76).keep K102).lt
  have ne139 : sa_s ≠ va2_129 := own_nev u128_2 ne113 ((((fa29.keep K34).ext E51).keep K76).keep K102).lt
  have ne140 : vb_s ≠ va2_129 := own_nev u128_2 ne114 ((((fa32.keep K34 (ninS ne4 (ninS ne21 nin0))).ext E51).keep K76 (ninS ne4 (ninS ne46 nin0))).keep K102 (ninS ne4 (ninS ne88 nin0))).lt
  have ne141 : sa_h ≠ va2_129 := own_nev u128_2 ne115 (fa97.keep K102).lt
  have ne142 : vb_h ≠ va2_129 := own_nev u128_2 ne116 (fa100.keep K102 (ninS ne6 (ninS ne90 nin0))).lt
  have ne143 : sa_p ≠ va2_129 := own_nev u128_2 ne117 fa123.lt
  have ne144 : vb_p ≠ va2_129 := own_nev u128_2 ne118 fa126.lt
  have ne145 : b51 ≠ va2_129 := own_nev u128_2 ne119 ((fe51.keep K76).keep K102).lt
  have ne146 : vb51 ≠ va2_129 := own_nev u128_2 ne120 ((fr51.keep K76 (ninS (Ne.symm ne65.2) (ninS (Ne.symm ne67.2) nin0))).keep K102 (ninS (Ne.symm ne65.2) (ninS ne94 nin0))).lt
  have sz_va2_129 : h0.size ≤ va2_129 := own_szv u128_2 sz_va2_103 K111.1
  have fa147 := (fa127.keep K128 (allS (P := fun x => n0 ≤ x) gn_b1 (allS (P := fun x => n0 ≤ x) u102_0 all0)))
  obtain ⟨cq148, kq148, q148a, q148b, q148c⟩ := isOf hZ rfl f128_0
  obtain ⟨_, _, ⟨T148, L148, k148, n148⟩, -, X148, ⟨Lc148, hQ148, l148, y148, z148⟩, st148⟩ := X128.virtualBack hx (y := oM49) (z := oM49) hown (mvT hZ (ow hw 135 rfl)) (mvT hZ (ow hw 136 rfl)) (notFace_of_selects (args := #[]) (mvT hZ (ow hw 138 rfl))) (mvT hZ (ow hw 138 rfl)) (mvT hZ (ow hw 137 rfl)) (by decide) (backOf (W := 0) (rm23 l Z a0 hw [] b1 va2_129 kv2_130 bc2_131 nv2_132 xs2_133 cn2_134 (((([] ++ u_s) ++ [58, 47, 47]) ++ u_h) ++ u_p) cs T128.heap n0 Z136 f128_0 f128_1 f128_2 f128_3 f128_4 f128_5 (by first | assumption | decide | omega) (by first | assumption | decide | omega) (by simp only [List.length_append, List.length_cons, List.length_nil]; omega) Cs hcs fa147) hZ (ow hw 139 rfl) (ow hw 69 rfl) (by decide) (by decide)) q148a q148c (g := (mkF m 33 #[oa r, .unset] [(.ref b1)])) rfl (by rw [hml]; rfl) (Steps.refl _) (argsL := []) (rest := []) (lenOf pd42 rfl) rfl (Nat.le_of_eq rfl) (hb hby d12_33) (fun _ _ => ⟨rfl, rfl, (by decide : 8 + 2 ≤ _), (by decide : 164 + 36 ≤ _)⟩)
  dsimp only [Pt.U, Pt.locs, Pt.cells, Pt.slots] at X148 l148 y148 z148 st148 hQ148
  subst l148 y148 z148
  obtain ⟨sa_149, vb_150, kb_151, kc_152, nb_153, vs_154, rfl, N148q, K148, u148_0, u148_1, u148_2, u148_3, u148_4, f148_0, f148_1, f148_2, f148_3⟩ := hQ148
  have N148 := Fr.app N128 N148q
  have hk155 := Nat.le_trans hk135 K148.1
  have Z156 : n0 ≤ T148.heap.size := Nat.le_trans Z136 K148.1
  have K157 : Keep h0 T148.heap [] := K137.trans K148 all0
  have ne158 := own_nc (((((((Er.ext E1).keep K13).keep K34).ext E51).keep K76).keep K102).keep K128).lt u148_1
  have ne159 := own_nc (((((fa29.keep K34).ext E51).keep K76).keep K102).keep K128).lt u148_1
  have ne160 := own_nc (((((fa32.keep K34 (ninS ne4 (ninS ne21 nin0))).ext E51).keep K76 (ninS ne4 (ninS ne46 nin0))).keep K102 (ninS ne4 (ninS ne88 nin0))).keep K128 (ninS ne4 (ninS ne114 nin0))).lt u148_1
  have ne161 := own_nc ((fa97.keep K102).keep K128).lt u148_1
  have ne162 := own_nc ((fa100.keep K102 (ninS ne6 (ninS ne90 nin0))).keep K128 (ninS ne6 (ninS ne116 nin0))).lt u148_1
  have ne163 := own_nc (fa123.keep K128).lt u148_1
  have ne164 := own_nc (fa126.keep K128 (ninS ne8 (ninS ne118 nin0))).lt u148_1
  have ne165 := own_nc f128_0.lt u148_1
  have ne166 := own_nc (((fe51.keep K76).keep K102).keep K128).lt u148_1
  have ne167 := own_nc (((fr51.keep K76 (ninS (Ne.symm ne65.2) (ninS (Ne.symm ne67.2) nin0))).keep K102 (ninS (Ne.symm ne65.2) (ninS ne94 nin0))).keep K128 (ninS (Ne.symm ne65.2) (ninS ne120 nin0))).lt u148_1
  have ne168 := own_nc f128_5.lt u148_1
  have sz_sa_149 : h0.size ≤ sa_149 := Nat.le_trans K137.1 u148_1
  have ne169 := own_nc (((((((Er.ext E1).keep K13).keep K34).ext E51).keep K76).keep K102).keep K128).lt u148_3
  have ne170 := own_nc (((((fa29.keep K34).ext E51).keep K76).keep K102).keep K128).lt u148_3
  have ne171 := own_nc (((((fa32.keep K34 (ninS ne4 (ninS ne21 nin0))).ext E51).keep K76 (ninS ne4 (ninS ne46 nin0))).keep K102 (ninS ne4 (ninS ne88 nin0))).keep K128 (ninS ne4 (ninS ne114 nin0))).lt u148_3
  have ne172 := own_nc ((fa97.keep K102).keep K128).lt u148_3
  have ne173 := own_nc ((fa100.keep K102 (ninS ne6 (ninS ne90 nin0))).keep K128 (ninS ne6 (ninS ne116 nin0))).lt u148_3
  have ne174 := own_nc (fa123.keep K128).lt u148_3
  have ne175 := own_nc (fa126.keep K128 (ninS ne8 (ninS ne118 nin0))).lt u148_3
  have ne176 := own_nc f128_0.lt u148_3
  have ne177 := own_nc (((fe51.keep K76).keep K102).keep K128).lt u148_3
  have ne178 := own_nc (((fr51.keep K76 (ninS (Ne.symm ne65.2) (ninS (Ne.symm ne67.2) nin0))).keep K102 (ninS (Ne.symm ne65.2) (ninS ne94 nin0))).keep K128 (ninS (Ne.symm ne65.2) (ninS ne120 nin0))).lt u148_3
  have ne179 := own_nc f128_5.lt u148_3
  have sz_vb_150 : h0.size ≤ vb_150 := Nat.le_trans K137.1 u148_3
  have fa180 := ((((((((Rq.ext E1).keep K13 (ninS ne2 nin0)).keep K34 (ninS ne2 (ninS ne19 nin0))).ext E51).keep K76 (ninS ne2 (ninS ne44 nin0))).keep K102 (ninS ne2 (ninS ne86 nin0))).keep K128 (ninS ne2 (ninS ne112 nin0))).keep K148 nin0)
  obtain ⟨T181, X181, e181, st181⟩ := getF X148 hx hZ hown (host := "") (Or.inl (ow hw 60 rfl)) Via.refl rfl fa180 (g := (mkF m 38 #[oa r, oa sa_149] [(.ref r)])) rfl rfl (hb hby d12_38)
  obtain ⟨fsZ, hrZ, hrun, hended, hRE⟩ := X181.leaveW hS51 (by rw [e181]; exact hk155) (v := some (.ref sa_149)) (fun h => by rw [Bd.returns] at h; cases h)
  have ch182 := ch59.trans hC51
  have ch183 := ch182.trans (CHr.keep K76 (own_aS sf66 (own_aS sf68 all0)) ch182.1)
  have sf184 := own_sfv u76_2 sf68
  have sf185 := Safe.keep K76 (own_aS sf66 (own_aS sf68 all0)) ch182.1 sf184
  have sf186 := Safe.keep K76 (own_aS sf66 (own_aS sf68 all0)) ch182.1 sf66
  have ch187 := ch183.trans (CHr.keep K102 (own_aS sf186 (own_aS sf185 all0)) ch183.1)
  have sf188 := own_sfv u102_2 sf185
  have sf189 := Safe.keep K102 (own_aS sf186 (own_aS sf185 all0)) ch183.1 sf188
  have sf190 := Safe.keep K102 (own_aS sf186 (own_aS sf185 all0)) ch183.1 sf186
  have ch191 := ch187.trans (CHr.keep K128 (own_aS sf190 (own_aS sf189 all0)) ch187.1)
  have ch192 := ch191.trans (CHr.keep K148 all0 ch191.1)
  have hCE : CHr Z own_EL s.vm s.heap T181.vm T181.heap := by rw [hh, e181]; exact ch192.trans (CHv.at X181 hZ hEL ch192.1)
  refine ⟨_, _, pre0 _ ?_, hrun, hended, _, _, rfl, ?_, hCE, hRE.1, hRE.2.1, hRE.2.2.1, hRE.2.2.2.mono (by decide) (by decide)⟩
  · show Steps _ _ _ (s₁.setTop (mkF m 0 #[oa r, .unset] [])) _
    refine st1 _ ?_
    refine XS.dup X1.here hx rfl (hb hby d12_3) rfl rfl ?_
    refine st13.trans ?_
    refine XS.aloadN X13.here hx rfl (hb hby d12_7) rfl rfl ?_
    refine st28 _ ?_
    refine st34.trans ?_
    refine st51 _ ?_
    refine st76.trans ?_
    show Steps _ _ _ (T76.setTop (mkF m 19 #[oa r, .unset] [(.ref b1)])) _
    refine XS.aloadN X76.here hx rfl (hb hby d12_19) rfl rfl ?_
    refine st96 _ ?_
    refine st102.trans ?_
    refine XS.aloadN X102.here hx rfl (hb hby d12_26) rfl rfl ?_
    refine st122 _ ?_
    refine st128.trans ?_
    refine st148.trans ?_
    refine XS.astoreN X148.here hx rfl (hb hby d12_36) rfl rfl (l' := #[oa r, oa sa_149]) rfl ?_
    show Steps _ _ _ (T148.setTop (mkF m 37 #[oa r, oa sa_149] [])) _
    refine XS.aloadN X148.here hx rfl (hb hby d12_37) rfl rfl ?_
    refine st181 _ ?_
    refine XS.ifnonnullNo X181.here hx rfl (hb hby d12_41) rfl ?_
    refine XS.aloadN X181.here hx rfl (hb hby d12_44) rfl rfl ?_
    refine XS.goto X181.here hx rfl (pc0 := 45) (pc' := 74) rfl (hb hby d12_45) (by decide) (by decide) ?_
    show Steps _ _ _ (T181.setTop (mkF m 74 #[oa r, oa sa_149] [(.ref sa_149)])) _
    jvm_step X181.here [X181.here.top, hx, (hb hby d12_74), X181.method', Bd.returns, Value.isRef, FieldType.isReference]
    first | (intro acts; rw [hrZ _ acts rfl rfl rfl]) | rw [hrZ _ _ rfl rfl rfl]
    exact Steps.refl _
  · show Q12n Z r sa_s vb_s kb_s kc_s nb_s vs_s u_s sa_h vb_h kb_h kc_h nb_h vs_h u_h sa_p vb_p kb_p kc_p nb_p vs_p u_p cs fm h0 n0 _ T181.heap _
    rw [e181]
    exact ⟨sa_149, vb_150, kb_151, kc_152, nb_153, vs_154, rfl, N148, K157, (by first | assumption | exact own_b01 _ | decide | omega | exact Or.inl rfl | exact Or.inr (by assumption)), f148_0, f148_1, f148_2, f148_3⟩
theorem d12_48 : decode prog_1_method_7_code 48 = .ok (.new 26, 3) := by decide +kernel
theorem d12_51 : decode prog_1_method_7_code 51 = .ok (.dup, 1) := by decide +kernel
theorem d12_52 : decode prog_1_method_7_code 52 = .ok (.invokespecial 28, 3) := by decide +kernel
theorem d12_55 : decode prog_1_method_7_code 55 = .ok (.aload_n 1, 1) := by decide +kernel
theorem d12_56 : decode prog_1_method_7_code 56 = .ok (.invokevirtual 29, 3) := by decide +kernel
theorem d12_59 : decode prog_1_method_7_code 59 = .ok (.ldc 39, 2) := by decide +kernel
theorem d12_61 : decode prog_1_method_7_code 61 = .ok (.invokevirtual 29, 3) := by decide +kernel
theorem d12_64 : decode prog_1_method_7_code 64 = .ok (.aload_n 0, 1) := by decide +kernel
theorem d12_65 : decode prog_1_method_7_code 65 = .ok (.getfield 23, 3) := by decide +kernel
theorem d12_68 : decode prog_1_method_7_code 68 = .ok (.invokevirtual 29, 3) := by decide +kernel
theorem d12_71 : decode prog_1_method_7_code 71 = .ok (.invokevirtual 35, 3) := by decide +kernel
theorem ef12q (m : MethodId) (r : Addr) : entryFrame m #[(.ref r)] 2 = mkF m 0 #[oa r, .unset] [] := by first | (simp [entryFrame, mkF, argsToLocals, Value.category]; done) | rfl
def Q12q (Z : State) (r : Addr) (sa_s : Addr) (vb_s : Addr) (kb_s : ClassId) (kc_s : Int32) (nb_s : Int32) (vs_s : List Value) (u_s : List Int32) (sa_h : Addr) (vb_h : Addr) (kb_h : ClassId) (kc_h : Int32) (nb_h : Int32) (vs_h : List Value) (u_h : List Int32) (sa_p : Addr) (vb_p : Addr) (kb_p : ClassId) (kc_p : Int32) (nb_p : Int32) (vs_p : List Value) (u_p : List Int32) (sa_q : Addr) (vb_q : Addr) (kb_q : ClassId) (kc_q : Int32) (nb_q : Int32) (vs_q : List Value) (u_q : List Int32) (cs : Int32) (fm : Value) (h0 : Heap) (n0 : Nat) (v : Option Value) (h : Heap) (L : List Loc) : Prop := ∃ (sr : Addr) (vb : Addr) (kb : ClassId) (kc : Int32) (nb : Int32) (vs : List Value), v = some (.ref sr) ∧ Fr n0 L ∧ Keep h0 h [] ∧ own_enc ((([] ++ (((([] ++ u_s) ++ [58, 47, 47]) ++ u_h) ++ u_p)) ++ [63]) ++ u_q) kc nb vs ∧ Exa Z h sr oS ∧ Fld Z h sr oS "coder" "B" (.int kc) ∧ Fld Z h sr oS "value" "[B" (.ref vb) ∧ Arv Z h vb kb .byte nb vs (.int 0)
theorem rm12q (l : Launch) (Z : State) (a0 : Array Value) (hw : ∀ d ∈ tables_1, d.before a0 Z = true) (ws : List Jvm.Cond) (r : Addr) (sa_s : Addr) (vb_s : Addr) (kb_s : ClassId) (kc_s : Int32) (nb_s : Int32) (vs_s : List Value) (u_s : List Int32) (sa_h : Addr) (vb_h : Addr) (kb_h : ClassId) (kc_h : Int32) (nb_h : Int32) (vs_h : List Value) (u_h : List Int32) (sa_p : Addr) (vb_p : Addr) (kb_p : ClassId) (kc_p : Int32) (nb_p : Int32) (vs_p : List Value) (u_p : List Int32) (sa_q : Addr) (vb_q : Addr) (kb_q : ClassId) (kc_q : Int32) (nb_q : Int32) (vs_q : List Value) (u_q : List Int32) (cs : Int32) (fm : Value) (h0 : Heap) (n0 : Nat) (Z0 : n0 ≤ h0.size) (Er : Exa Z h0 r oU) (Rs : Fld Z h0 r oU "scheme" "Ljava/lang/String;" (.ref sa_s)) (Rh : Fld Z h0 r oU "host" "Ljava/lang/String;" (.ref sa_h)) (Rp : Fld Z h0 r oU "path" "Ljava/lang/String;" (.ref sa_p)) (Rq : Fld Z h0 r oU "query" "Ljava/lang/String;" (.ref sa_q)) (Ss0 : Exa Z h0 sa_s oS) (Ss1 : Fld Z h0 sa_s oS "coder" "B" (.int kc_s)) (Ss2 : Fld Z h0 sa_s oS "value" "[B" (.ref vb_s)) (Ss3 : Arv Z h0 vb_s kb_s .byte nb_s vs_s (.int 0)) (Sh0 : Exa Z h0 sa_h oS) (Sh1 : Fld Z h0 sa_h oS "coder" "B" (.int kc_h)) (Sh2 : Fld Z h0 sa_h oS "value" "[B" (.ref vb_h)) (Sh3 : Arv Z h0 vb_h kb_h .byte nb_h vs_h (.int 0)) (Sp0 : Exa Z h0 sa_p oS) (Sp1 : Fld Z h0 sa_p oS "coder" "B" (.int kc_p)) (Sp2 : Fld Z h0 sa_p oS "value" "[B" (.ref vb_p)) (Sp3 : Arv Z h0 vb_p kb_p .byte nb_p vs_p (.int 0)) (Sq0 : Exa Z h0 sa_q oS) (Sq1 : Fld Z h0 sa_q oS "coder" "B" (.int kc_q)) (Sq2 : Fld Z h0 sa_q oS "value" "[B" (.ref vb_q)) (Sq3 : Arv Z h0 vb_q kb_q .byte nb_q vs_q (.int 0)) (he_s : own_enc u_s kc_s nb_s vs_s) (he_h : own_enc u_h kc_h nb_h vs_h) (he_p : own_enc u_p kc_p nb_p vs_p) (he_q : own_enc u_q kc_q nb_q vs_q) (hsm : u_s.length + 3 + u_h.length + u_p.length + 1 + u_q.length < 16) (Cs : Sta Z Z.heap oS "COMPACT_STRINGS" "Z" (.int cs)) (hcs : ¬ (cs = (0 : Int32))) (Ox : Old Z n0 h0) (Fm : Sta Z Z.heap "jdk/internal/util/Preconditions" "SIOOBE_FORMATTER" "Ljava/util/function/BiFunction;" fm) (hfm : fm.isRef = true) (Ua : Sta Z Z.heap o6 "$assertionsDisabled" "Z" (.int 1)) (Uh : Sta Z Z.heap o6 "HI_BYTE_SHIFT" "I" (.int 0)) (Ul : Sta Z Z.heap o6 "LO_BYTE_SHIFT" "I" (.int 8)) :
    MetFree l oM51 (head1 (Jvm.Cond.code oM51 prog_1_method_7_code 2 (some (.object oS)) :: ws) oR42) (fun a U => a = #[(.ref r)] ∧ Z.Warmed39 U.vm ∧ U.heap = h0 ∧ CHv Z own_EL U.vm h0) (fun _ _ _ _ _ => True) (fun _ U o U' => ∃ v L, o = .returned v ∧ Q12q Z r sa_s vb_s kb_s kc_s nb_s vs_s u_s sa_h vb_h kb_h kc_h nb_h vs_h u_h sa_p vb_p kb_p kc_p nb_p vs_p u_p sa_q vb_q kb_q kc_q nb_q vs_q u_q cs fm h0 n0 v U'.heap L ∧ CHr Z own_EL U.vm U.heap U'.vm U'.heap ∧ ReturnedEndW U o U' L oR42.cells oR42.slots) := by
  refine MetFree.of_bodySF (plainFor_of_name pn40) hisR ?_
  intro p e s m args below meth c s₁ Bd hml0 hP hK
  obtain ⟨rfl, hZ, hh, hCH⟩ := hP
  have hx := Bd.exec
  have hby := Bd.bytes
  have hml : c.maxLocals = 2 := hml0
  have hown : s.vm.findClass oU = some m.cls := findClass_of_methodNamed Bd.named
  have X0 : Stand p l e oR42 s m #[(.ref r)] below meth c s₁ [] 0 0 := Stand.of_body Bd
  have e0 : s₁.heap = h0 := by rw [← hh, Bd.state]; rfl
  have N0 := Fr.nil n0
  have X0 : Stand p l e oR42 (s.setVm s.vm) m #[(.ref r)] below meth c s₁ [] 0 0 := X0
  have hS0 : s.Since s.vm h0.size := (State.WarmedH.refl s).since _
  have hk0 : h0.size ≤ h0.size := Nat.le_refl _
  have hwS := own_wS hw
  have hEL : EW Z a0 own_EL := own_ew hw
  have ch0 := CHr.refl hCH
  have pre0 := own_pre (p := p) (e := e) (below := below) (s₁ := s₁) (ef12q m r)
  obtain ⟨T1, h1, X1, e1, E1, A1, D1, -, st1⟩ := newO X0 hx hZ hown (ow hw 67 rfl) (ow hw 68 rfl) (ow hw 69 rfl) e0 (g := (mkF m 0 #[oa r, .unset] [])) rfl (hb hby d12_0) (by decide) (by decide)
  obtain ⟨b1, g1⟩ : ∃ z, z = h0.size := ⟨_, rfl⟩
  rw [← g1] at A1 D1 st1
  have ne2 := own_nb Er.lt g1
  have ne3 := own_nb Ss0.lt g1
  have ne4 := own_nb Ss3.lt g1
  have ne5 := own_nb Sh0.lt g1
  have ne6 := own_nb Sh3.lt g1
  have ne7 := own_nb Sp0.lt g1
  have ne8 := own_nb Sp3.lt g1
  have ne9 := own_nb Sq0.lt g1
  have ne10 := own_nb Sq3.lt g1
  have gn_b1 : n0 ≤ b1 := Nat.le_trans Z0 (Nat.le_of_eq g1.symm)
  have sz_b1 : h0.size ≤ b1 := Nat.le_trans (Keep.refl h0 []).1 (Nat.le_of_eq g1.symm)
  have hk11 := Nat.le_trans hk0 E1.1
  have Z12 : n0 ≤ h1.size := Nat.le_trans Z0 E1.1
  have K13 : Keep h0 h1 [] := (Keep.refl h0 []).ext E1
  have F_value_b1 : Fld Z h1 b1 oA "value" "[B" .null := D1 (Or.inl (ow hw 82 rfl)) (ty := (.array .byte)) (by decide)
  have F_coder_b1 : Fld Z h1 b1 oA "coder" "B" (.int 0) := D1 (Or.inl (ow hw 84 rfl)) (ty := .byte) (by decide)
  have F_count_b1 : Fld Z h1 b1 oA "count" "I" (.int 0) := D1 (Or.inl (ow hw 106 rfl)) (ty := .int) (by decide)
  have F_maybeLatin1_b1 : Fld Z h1 b1 oA "maybeLatin1" "Z" (.int 0) := D1 (Or.inl (ow hw 255 rfl)) (ty := .boolean) (by decide)
  have fa14 := (Ox.ext E1)
  obtain ⟨_, _, ⟨T15, L15, k15, n15⟩, -, X15, ⟨Lc15, hQ15, l15, y15, z15⟩, st15⟩ := X1.specialBack hx (y := oM29) rfl hown (mvT hZ (ow hw 70 rfl)) (mvT hZ (ow hw 71 rfl)) (mvT hZ (ow hw 72 rfl)) (by decide) (backOf (W := 1) (rm13 l Z a0 hw [] b1 .null (.int 0) cs h1 n0 Z12 A1 F_value_b1 F_coder_b1 F_count_b1 F_maybeLatin1_b1 gn_b1 Cs hcs fa14) hZ (ow hw 72 rfl) (ow hw 69 rfl) (by decide) (by decide)) (g := (mkF m 4 #[oa r, .unset] [(.ref b1), (.ref b1)])) rfl (by rw [hml]; rfl) (Steps.refl _) (a := b1) (argsL := []) (rest := [(.ref b1)]) (lenOf pd28 rfl) rfl (Nat.le_of_eq rfl) (hb hby d12_4) (fun _ _ => ⟨rfl, e1, (by decide : 1 + 1 ≤ _), (by decide : 4 + 16 ≤ _)⟩)
  dsimp only [Pt.U, Pt.locs, Pt.cells, Pt.slots] at X15 l15 y15 z15 st15 hQ15
  subst l15 y15 z15
  obtain ⟨va_16, kv_17, rfl, N15q, K15, u15_0, u15_1, f15_0, f15_1, f15_2, f15_3, f15_4, f15_5⟩ := hQ15
  have N15 := Fr.app N0 N15q
  have hk18 := Nat.le_trans hk11 K15.1
  have Z19 : n0 ≤ T15.heap.size := Nat.le_trans Z12 K15.1
  have K20 : Keep h0 T15.heap [] := K13.trans K15 (allS (P := fun x => x ∈ _ ∨ _) (Or.inr sz_b1) all0)
  have ne21 := own_nc (Er.ext E1).lt u15_1
  have ne22 := own_nc (Ss0.ext E1).lt u15_1
  have ne23 := own_nc (Ss3.ext E1).lt u15_1
  have ne24 := own_nc (Sh0.ext E1).lt u15_1
  have ne25 := own_nc (Sh3.ext E1).lt u15_1
  have ne26 := own_nc (Sp0.ext E1).lt u15_1
  have ne27 := own_nc (Sp3.ext E1).lt u15_1
  have ne28 := own_nc (Sq0.ext E1).lt u15_1
  have ne29 := own_nc (Sq3.ext E1).lt u15_1
  have ne30 := own_nc A1.lt u15_1
  have sz_va_16 : h0.size ≤ va_16 := Nat.le_trans K13.1 u15_1
  have fa31 := ((Rs.ext E1).keep K15 (ninS ne2 nin0))
  obtain ⟨T32, X32, e32, st32⟩ := getF X15 hx hZ hown (host := "") (Or.inl (ow hw 52 rfl)) Via.refl rfl fa31 (g := (mkF m 8 #[oa r, .unset] [(.ref r), (.ref b1)])) rfl rfl (hb hby d12_8)
  have fa33 := ((Ss0.ext E1).keep K15)
  have fa34 := ((Ss1.ext E1).keep K15 (ninS ne3 nin0))
  have fa35 := ((Ss2.ext E1).keep K15 (ninS ne3 nin0))
  have fa36 := ((Ss3.ext E1).keep K15 (ninS ne4 nin0))
  have fa37 := (fa14.keep K15 (allS (P := fun x => n0 ≤ x) gn_b1 all0))
  obtain ⟨cq38, kq38, q38a, q38b, q38c⟩ := isOf hZ e32 f15_0
  obtain ⟨_, _, ⟨T38, L38, k38, n38⟩, -, X38, ⟨Lc38, hQ38, l38, y38, z38⟩, st38⟩ := X32.virtualBack hx (y := oM39) (z := oM39) hown (mvT hZ (ow hw 85 rfl)) (mvT hZ (ow hw 86 rfl)) (notFace_of_selects (args := #[]) (mvT hZ (ow hw 88 rfl))) (mvT hZ (ow hw 88 rfl)) (mvT hZ (ow hw 87 rfl)) (by decide) (backOf (W := 0) (rm15 l Z a0 hw [] b1 sa_s va_16 kv_17 (0 : Int32) (16 : Int32) [] (0 : Int32) vb_s kb_s kc_s nb_s vs_s [] u_s cs fm T15.heap n0 Z19 f15_0 f15_1 f15_2 f15_3 f15_4 f15_5 fa33 fa34 fa35 fa36 gn_b1 u15_0 ne30 ne3 ne22 ne4 ne23 own_sb0 he_s (by decide) (by simp only [List.length_append, List.length_cons, List.length_nil]; omega) Cs hcs fa37 Fm hfm Ua Uh Ul) hZ (ow hw 89 rfl) (ow hw 69 rfl) (by decide) (by decide)) q38a q38c (g := (mkF m 11 #[oa r, .unset] [(.ref sa_s), (.ref b1)])) rfl (by rw [hml]; rfl) (Steps.refl _) (argsL := [(.ref sa_s)]) (rest := []) (lenOf pd41 rfl) rfl (Nat.le_of_eq rfl) (hb hby d12_11) (fun _ _ => ⟨rfl, e32, (by decide : 2 + 1 ≤ _), (by decide : 20 + 32 ≤ _)⟩)
  dsimp only [Pt.U, Pt.locs, Pt.cells, Pt.slots] at X38 l38 y38 z38 st38 hQ38
  subst l38 y38 z38
  obtain ⟨va2_39, kv2_40, bc2_41, nv2_42, xs2_43, cn2_44, rfl, N38q, K38, u38_0, u38_1, u38_2, u38_3, u38_4, f38_0, f38_1, f38_2, f38_3, f38_4, f38_5⟩ := hQ38
  have N38 := Fr.app N15 N38q
  have hk45 := Nat.le_trans hk18 K38.1
  have Z46 : n0 ≤ T38.heap.size := Nat.le_trans Z19 K38.1
  have K47 : Keep h0 T38.heap [] := K20.trans K38 (allS (P := fun x => x ∈ _ ∨ _) (Or.inr sz_b1) (allS (P := fun x => x ∈ _ ∨ _) (Or.inr sz_va_16) all0))
  have ne48 : r ≠ va2_39 := own_nev u38_2 ne21 ((Er.ext E1).keep K15).lt
  have ne49 : sa_s ≠ va2_39 := own_nev u38_2 ne22 fa33.lt
  have ne50 : vb_s ≠ va2_39 := own_nev u38_2 ne23 fa36.lt
  have ne51 : sa_h ≠ va2_39 := own_nev u38_2 ne24 ((Sh0.ext E1).keep K15).lt
  have ne52 : vb_h ≠ va2_39 := own_nev u38_2 ne25 ((Sh3.ext E1).keep K15 (ninS ne6 nin0)).lt
  have ne53 : sa_p ≠ va2_39 := own_nev u38_2 ne26 ((Sp0.ext E1).keep K15).lt
  have ne54 : vb_p ≠ va2_39 := own_nev u38_2 ne27 ((Sp3.ext E1).keep K15 (ninS ne8 nin0)).lt
  have ne55 : sa_q ≠ va2_39 := own_nev u38_2 ne28 ((Sq0.ext E1).keep K15).lt
  have ne56 : vb_q ≠ va2_39 := own_nev u38_2 ne29 ((Sq3.ext E1).keep K15 (ninS ne10 nin0)).lt
  have sz_va2_39 : h0.size ≤ va2_39 := own_szv u38_2 sz_va_16 K20.1
  have ch58 := ch0.trans (CHr.ext E1 ch0.1)
  have sf59 := (Safe.new (Nat.le_of_eq g1.symm) : Safe Z own_EL s.vm _ b1)
  have sf60 := Safe.ext E1 ch0.1 sf59
  have ch61 := ch58.trans (CHr.keep K15 (own_aS sf60 all0) ch58.1)
  have sf62 := (Safe.new u15_1 : Safe Z own_EL s.vm _ va_16)
  have sf63 := Safe.keep K15 (own_aS sf60 all0) ch58.1 sf62
  have sf64 := Safe.keep K15 (own_aS sf60 all0) ch58.1 sf60
  have ch65 := ch61.trans (CHr.keep K38 (own_aS sf64 (own_aS sf63 all0)) ch61.1)
  have sf66 := Safe.keep K38 (own_aS sf64 (own_aS sf63 all0)) ch61.1 sf64
  have sf67 := own_sfv u38_2 sf63
  have sf68 := Safe.keep K38 (own_aS sf64 (own_aS sf63 all0)) ch61.1 sf67
  obtain ⟨b57, T57, h57, k57, vb57, kb57, X57, e57, E57, hS57, hk57, hZ, hown, fe57, fc57, fv57, fr57, -, -, hC57, -, hne57, st57⟩ := ldcCH X38 hx hZ hown (ow hw 132 rfl) hwS rfl hS0 hk45 hEL (List.mem_of_getElem? (i := 0) rfl) ch65.1 (vs := (own_lb [58, 47, 47])) (z := (3 : Int32)) own_t3 (by decide) rfl (g := (mkF m 14 #[oa r, .unset] [(.ref b1)])) rfl (hb hby d12_14) (n := 12) (by decide) (by decide) (by decide) (by decide)
  have Z69 : n0 ≤ h57.size := Nat.le_trans Z46 E57.1
  have K70 : Keep h0 h57 [] := K47.ext E57
  have sf72 := CHr.safe hC57 f38_0.lt sf66
  have ne71 := hne57 b1 sf72
  have sf74 := CHr.safe hC57 f38_5.lt sf68
  have ne73 := hne57 va2_39 sf74
  have fa75 := (f38_0.ext E57)
  have fa76 := (f38_1.ext E57)
  have fa77 := (f38_2.ext E57)
  have fa78 := (f38_3.ext E57)
  have fa79 := (f38_4.ext E57)
  have fa80 := (f38_5.ext E57)
  have fa81 := ((fa37.keep K38 (allS (P := fun x => n0 ≤ x) gn_b1 (allS (P := fun x => n0 ≤ x) u15_0 all0))).ext E57)
  obtain ⟨cq82, kq82, q82a, q82b, q82c⟩ := isOf hZ e57 fa75
  obtain ⟨_, _, ⟨T82, L82, k82, n82⟩, -, X82, ⟨Lc82, hQ82, l82, y82, z82⟩, st82⟩ := X57.virtualBack hx (y := oM39) (z := oM39) hown (mvT hZ (ow hw 85 rfl)) (mvT hZ (ow hw 86 rfl)) (notFace_of_selects (args := #[]) (mvT hZ (ow hw 88 rfl))) (mvT hZ (ow hw 88 rfl)) (mvT hZ (ow hw 87 rfl)) (by decide) (backOf (W := 0) (rm15 l Z a0 hw [] b1 b57 va2_39 kv2_40 bc2_41 nv2_42 xs2_43 cn2_44 vb57 kb57 (0 : Int32) (3 : Int32) (own_lb [58, 47, 47]) ([] ++ u_s) [58, 47, 47] cs fm h57 n0 Z69 fa75 fa76 fa77 fa78 fa79 fa80 fe57 fc57 fv57 fr57 gn_b1 u38_0 u38_1 (Ne.symm ne71.1) (Ne.symm ne73.1) (Ne.symm ne71.2) (Ne.symm ne73.2) (by first | assumption | decide | omega) own_k3 (by first | assumption | decide | omega) (by simp only [List.length_append, List.length_cons, List.length_nil]; omega) Cs hcs fa81 Fm hfm Ua Uh Ul) hZ (ow hw 89 rfl) (ow hw 69 rfl) (by decide) (by decide)) q82a q82c (g := (mkF m 16 #[oa r, .unset] [(.ref b57), (.ref b1)])) rfl (by rw [hml]; rfl) (Steps.refl _) (argsL := [(.ref b57)]) (rest := []) (lenOf pd41 rfl) rfl (Nat.le_of_eq rfl) (hb hby d12_16) (fun _ _ => ⟨rfl, e57, (by decide : 5 + 1 ≤ _), (by decide : 68 + 32 ≤ _)⟩)
  dsimp only [Pt.U, Pt.locs, Pt.cells, Pt.slots] at X82 l82 y82 z82 st82 hQ82
  subst l82 y82 z82
  obtain ⟨va2_83, kv2_84, bc2_85, nv2_86, xs2_87, cn2_88, rfl, N82q, K82, u82_0, u82_1, u82_2, u82_3, u82_4, f82_0, f82_1, f82_2, f82_3, f82_4, f82_5⟩ := hQ82
  have N82 := Fr.app N38 N82q
  have hk89 := Nat.le_trans hk57 K82.1
  have Z90 : n0 ≤ T82.heap.size := Nat.le_trans Z69 K82.1
  have K91 : Keep h0 T82.heap [] := K70.trans K82 (allS (P := fun x => x ∈ _ ∨ _) (Or.inr sz_b1) (allS (P := fun x => x ∈ _ ∨ _) (Or.inr sz_va2_39) all0))
  have ne92 : r ≠ va2_83 := own_nev u82_2 ne48 ((((Er.ext E1).keep K15).keep K38).ext E57).lt
  have ne93 : sa_s ≠ va2_83 := own_nev u82_2 ne49 ((fa33.keep K38).ext E57).lt
  have ne94 : vb_s ≠ va2_83 := own_nev u82_2 ne50 ((fa36.keep K38 (ninS ne4 (ninS ne23 nin0))).ext E57).lt
  have ne95 : sa_h ≠ va2_83 := own_nev u82_2 ne51 ((((Sh0.ext E1).keep K15).keep K38).ext E57).lt
  have ne96 : vb_h ≠ va2_83 := own_nev u82_2 ne52 ((((Sh3.ext E1).keep K15 (ninS ne6 nin0)).keep K38 (ninS ne6 (ninS ne25 nin0))).ext E57).lt
  have ne97 : sa_p ≠ va2_83 := own_nev u82_2 ne53 ((((Sp0.ext E1).keep K15).keep K38).ext E57).lt
  have ne98 : vb_p ≠ va2_83 := own_nev u82_2 ne54 ((((Sp3.ext E1).keep K15 (ninS ne8 nin0)).keep K38 (ninS ne8 (ninS ne27 nin0))).ext E57).lt
  have ne99 : sa_q ≠ va2_83 := own_nev u82_2 ne55 ((((Sq0.ext E1).keep K15).keep K38).ext E57).lt
  have ne100 : vb_q ≠ va2_83 := own_nev u82_2 ne56 ((((Sq3.ext E1).keep K15 (ninS ne10 nin0)).keep K38 (ninS ne10 (ninS ne29 nin0))).ext E57).lt
  have ne101 : b57 ≠ va2_83 := own_nev u82_2 (Ne.symm ne73.1) fe57.lt
  have ne102 : vb57 ≠ va2_83 := own_nev u82_2 (Ne.symm ne73.2) fr57.lt
  have sz_va2_83 : h0.size ≤ va2_83 := own_szv u82_2 sz_va2_39 K70.1
  have fa103 := (((((Rh.ext E1).keep K15 (ninS ne2 nin0)).keep K38 (ninS ne2 (ninS ne21 nin0))).ext E57).keep K82 (ninS ne2 (ninS ne48 nin0)))
  obtain ⟨T104, X104, e104, st104⟩ := getF X82 hx hZ hown (host := "") (Or.inl (ow hw 54 rfl)) Via.refl rfl fa103 (g := (mkF m 20 #[oa r, .unset] [(.ref r), (.ref b1)])) rfl rfl (hb hby d12_20)
  have fa105 := (((((Sh0.ext E1).keep K15).keep K38).ext E57).keep K82)
  have fa106 := (((((Sh1.ext E1).keep K15 (ninS ne5 nin0)).keep K38 (ninS ne5 (ninS ne24 nin0))).ext E57).keep K82 (ninS ne5 (ninS ne51 nin0)))
  have fa107 := (((((Sh2.ext E1).keep K15 (ninS ne5 nin0)).keep K38 (ninS ne5 (ninS ne24 nin0))).ext E57).keep K82 (ninS ne5 (ninS ne51 nin0)))
  have fa108 := (((((Sh3.ext E1).keep K15 (ninS ne6 nin0)).keep K38 (ninS ne6 (ninS ne25 nin0))).ext E57).keep K82 (ninS ne6 (ninS ne52 nin0)))
  have fa109 := (fa81.keep K82 (allS (P := fun x => n0 ≤ x) gn_b1 (allS (P := fun x => n0 ≤ x) u38_0 all0)))
  obtain ⟨cq110, kq110, q110a, q110b, q110c⟩ := isOf hZ e104 f82_0
  obtain ⟨_, _, ⟨T110, L110, k110, n110⟩, -, X110, ⟨Lc110, hQ110, l110, y110, z110⟩, st110⟩ := X104.virtualBack hx (y := oM39) (z := oM39) hown (mvT hZ (ow hw 85 rfl)) (mvT hZ (ow hw 86 rfl)) (notFace_of_selects (args := #[]) (mvT hZ (ow hw 88 rfl))) (mvT hZ (ow hw 88 rfl)) (mvT hZ (ow hw 87 rfl)) (by decide) (backOf (W := 0) (rm15 l Z a0 hw [] b1 sa_h va2_83 kv2_84 bc2_85 nv2_86 xs2_87 cn2_88 vb_h kb_h kc_h nb_h vs_h (([] ++ u_s) ++ [58, 47, 47]) u_h cs fm T82.heap n0 Z90 f82_0 f82_1 f82_2 f82_3 f82_4 f82_5 fa105 fa106 fa107 fa108 gn_b1 u82_0 u82_1 ne5 ne95 ne6 ne96 (by first | assumption | decide | omega) he_h (by first | assumption | decide | omega) (by simp only [List.length_append, List.length_cons, List.length_nil]; omega) Cs hcs fa109 Fm hfm Ua Uh Ul) hZ (ow hw 89 rfl) (ow hw 69 rfl) (by decide) (by decide)) q110a q110c (g := (mkF m 23 #[oa r, .unset] [(.ref sa_h), (.ref b1)])) rfl (by rw [hml]; rfl) (Steps.refl _) (argsL := [(.ref sa_h)]) (rest := []) (lenOf pd41 rfl) rfl (Nat.le_of_eq rfl) (hb hby d12_23) (fun _ _ => ⟨rfl, e104, (by decide : 6 + 1 ≤ _), (by decide : 100 + 32 ≤ _)⟩)
  dsimp only [Pt.U, Pt.locs, Pt.cells, Pt.slots] at X110 l110 y110 z110 st110 hQ110
  subst l110 y110 z110
  obtain ⟨va2_111, kv2_112, bc2_113, nv2_114, xs2_115, cn2_116, rfl, N110q, K110, u110_0, u110_1, u110_2, u110_3, u110_4, f110_0, f110_1, f110_2, f110_3, f110_4, f110_5⟩ := hQ110
  have N110 := Fr.app N82 N110q
  have hk117 := Nat.le_trans hk89 K110.1
  have Z118 : n0 ≤ T110.heap.size := Nat.le_trans Z90 K110.1
  have K119 : Keep h0 T110.heap [] := K91.trans K110 (allS (P := fun x => x ∈ _ ∨ _) (Or.inr sz_b1) (allS (P := fun x => x ∈ _ ∨ _) (Or.inr sz_va2_83) all0))
  have ne120 : r ≠ va2_111 := own_nev u110_2 ne92 (((((Er.ext E1).keep K15).keep K38).ext E57).keep K82).lt
  have ne121 : sa_s ≠ va2_111 := own_nev u110_2 ne93 (((fa33.keep K38).ext E57).keep K82).lt
  have ne122 : vb_s ≠ va2_111 := own_nev u110_2 ne94 (((fa36.keep K38 (ninS ne4 (ninS ne23 nin0))).ext E57).keep K82 (ninS ne4 (ninS ne50 nin0))).lt
  have ne123 : sa_h ≠ va2_111 := own_nev u110_2 ne95 fa105.lt
  have ne124 : vb_h ≠ va2_111 := own_nev u110_2 ne96 fa108.lt
  have ne125 : sa_p ≠ va2_111 := own_nev u110_2 ne97 (((((Sp0.ext E1).keep K15).keep K38).ext E57).keep K82).lt
  have ne126 : vb_p ≠ va2_111 := own_nev u110_2 ne98 (((((Sp3.ext E1).keep K15 (ninS ne8 nin0)).keep K38 (ninS ne8 (ninS ne27 nin0))).ext E57).keep K82 (ninS ne8 (ninS ne54 nin0))).lt
  have ne127 : sa_q ≠ va2_111 := own_nev u110_2 ne99 (((((Sq0.ext E1).keep K15).keep K38).ext E57).keep K82).lt
  have ne128 : vb_q ≠ va2_111 := own_nev u110_2 ne100 (((((Sq3.ext E1).keep K15 (ninS ne10 nin0)).keep K38 (ninS ne10 (ninS ne29 nin0))).ext E57).keep K82 (ninS ne10 (ninS ne56 nin0))).lt
  have ne129 : b57 ≠ va2_111 := own_nev u110_2 ne101 (fe57.keep K82).lt
  have ne130 : vb57 ≠ va2_111 := own_nev u110_2 ne102 (fr57.keep K82 (ninS (Ne.symm ne71.2) (ninS (Ne.symm ne73.2) nin0))).lt
  have sz_va2_111 : h0.size ≤ va2_111 := own_szv u110_2 sz_va2_83 K91.1
  have fa131 := ((((((Rp.ext E1).keep K15 (ninS ne2 nin0)).keep K38 (ninS ne2 (ninS ne21 nin0))).ext E57).keep K82 (ninS ne2 (ninS ne48 nin0))).keep K110 (ninS ne2 (ninS ne92 nin0)))
  obtain ⟨T132, X132, e132, st132⟩ := getF X110 hx hZ hown (host := "") (Or.inl (ow hw 58 rfl)) Via.refl rfl fa131 (g := (mkF m 27 #[oa r, .unset] [(.ref r), (.ref b1)])) rfl rfl (hb hby d12_27)
  have fa133 := ((((((Sp0.ext E1).keep K15).keep K38).ext E57).keep K82).keep K110)
  have fa134 := ((((((Sp1.ext E1).keep K15 (ninS ne7 nin0)).keep K38 (ninS ne7 (ninS ne26 nin0))).ext E57).keep K82 (ninS ne7 (ninS ne53 nin0))).keep K110 (ninS ne7 (ninS ne97 nin0)))
  have fa135 := ((((((Sp2.ext E1).keep K15 (ninS ne7 nin0)).keep K38 (ninS ne7 (ninS ne26 nin0))).ext E57).keep K82 (ninS ne7 (ninS ne53 nin0))).keep K110 (ninS ne7 (ninS ne97 nin0)))
  have fa136 := ((((((Sp3.ext E1).keep K15 (ninS ne8 nin0)).keep K38 (ninS ne8 (ninS ne27 nin0))).ext E57).keep K82 (ninS ne8 (ninS ne54 nin0))).keep K110 (ninS ne8 (ninS ne98 nin0)))
  have fa137 := (fa109.keep K110 (allS (P := fun x => n0 ≤ x) gn_b1 (allS (P := fun x => n0 ≤ x) u82_0 all0)))
  obtain ⟨cq138, kq138, q138a, q138b, q138c⟩ := isOf hZ e132 f110_0
  obtain ⟨_, _, ⟨T138, L138, k138, n138⟩, -, X138, ⟨Lc138, hQ138, l138, y138, z138⟩, st138⟩ := X132.virtualBack hx (y := oM39) (z := oM39) hown (mvT hZ (ow hw 85 rfl)) (mvT hZ (ow hw 86 rfl)) (notFace_of_selects (args := #[]) (mvT hZ (ow hw 88 rfl))) (mvT hZ (ow hw 88 rfl)) (mvT hZ (ow hw 87 rfl)) (by decide) (backOf (W := 0) (rm15 l Z a0 hw [] b1 sa_p va2_111 kv2_112 bc2_113 nv2_114 xs2_115 cn2_116 vb_p kb_p kc_p nb_p vs_p ((([] ++ u_s) ++ [58, 47, 47]) ++ u_h) u_p cs fm T110.heap n0 Z118 f110_0 f110_1 f110_2 f110_3 f110_4 f110_5 fa133 fa134 fa135 fa136 gn_b1 u110_0 u110_1 ne7 ne125 ne8 ne126 (by first | assumption | decide | omega) he_p (by first | assumption | decide | omega) (by simp only [List.length_append, List.length_cons, List.length_nil]; omega) Cs hcs fa137 Fm hfm Ua Uh Ul) hZ (ow hw 89 rfl) (ow hw 69 rfl) (by decide) (by decide)) q138a q138c (g := (mkF m 30 #[oa r, .unset] [(.ref sa_p), (.ref b1)])) rfl (by rw [hml]; rfl) (Steps.refl _) (argsL := [(.ref sa_p)]) (rest := []) (lenOf pd41 rfl) rfl (Nat.le_of_eq rfl) (hb hby d12_30) (fun _ _ => ⟨rfl, e132, (by decide : 7 + 1 ≤ _), (by decide : 132 + 32 ≤ _)⟩)
  dsimp only [Pt.U, Pt.locs, Pt.cells, Pt.slots] at X138 l138 y138 z138 st138 hQ138
  subst l138 y138 z138
  obtain ⟨va2_139, kv2_140, bc2_141, nv2_142, xs2_143, cn2_144, rfl, N138q, K138, u138_0, u138_1, u138_2, u138_3, u138_4, f138_0, f138_1, f138_2, f138_3, f138_4, f138_5⟩ := hQ138
  have N138 := Fr.app N110 N138q
  have hk145 := Nat.le_trans hk117 K138.1
  have Z146 : n0 ≤ T138.heap.size := Nat.le_trans Z118 K138.1
  have K147 : Keep h0 T138.heap [] := K119.trans K138 (allS (P := fun x => x ∈ _ ∨ _) (Or.inr sz_b1) (allS (P := fun x => x ∈ _ ∨ _) (Or.inr sz_va2_111) all0))
  have ne148 : r ≠ va2_139 := own_nev u138_2 ne120 ((((((Er.ext E1).keep K15).keep K38).ext E57).keep K82).keep K110).lt
  have ne149 : sa_s ≠ va2_139 := own_nev u138_2 ne121 ((((fa33.keep K38).ext E57).keep K82).keep K110).lt
  have ne150 : vb_s ≠ va2_139 := own_nev u138_2 ne122 ((((fa36.keep K38 (ninS ne4 (ninS ne23 nin0))).ext E57).keep K82 (ninS ne4 (ninS ne50 nin0))).keep K110 (ninS ne4 (ninS ne94 nin0))).lt
  have ne151 : sa_h ≠ va2_139 := own_nev u138_2 ne123 (fa105.keep K110).lt
  have ne152 : vb_h ≠ va2_139 := own_nev u138_2 ne124 (fa108.keep K110 (ninS ne6 (ninS ne96 nin0))).lt
  have ne153 : sa_p ≠ va2_139 := own_nev u138_2 ne125 fa133.lt
  have ne154 : vb_p ≠ va2_139 := own_nev u138_2 ne126 fa136.lt
  have ne155 : sa_q ≠ va2_139 := own_nev u138_2 ne127 ((((((Sq0.ext E1).keep K15).keep K38).ext E57).keep K82).keep K110).lt
  have ne156 : vb_q ≠ va2_139 := own_nev u138_2 ne128 ((((((Sq3.ext E1).keep K15 (ninS ne10 nin0)).keep K38 (ninS ne10 (ninS ne29 nin0))).ext E57).keep K82 (ninS ne10 (ninS ne56 nin0))).keep K110 (ninS ne10 (ninS ne100 nin0))).lt
  have ne157 : b57 ≠ va2_139 := own_nev u138_2 ne129 ((fe57.keep K82).keep K110).lt
  have ne158 : vb57 ≠ va2_139 := own_nev u138_2 ne130 ((fr57.keep K82 (ninS (Ne.symm ne71.2) (ninS (Ne.symm ne73.2) nin0))).keep K110 (ninS (Ne.symm ne71.2) (ninS ne102 nin0))).lt
  have sz_va2_139 : h0.size ≤ va2_139 := own_szv u138_2 sz_va2_111 K119.1
  have fa159 := (fa137.keep K138 (allS (P := fun x => n0 ≤ x) gn_b1 (allS (P := fun x => n0 ≤ x) u110_0 all0)))
  obtain ⟨cq160, kq160, q160a, q160b, q160c⟩ := isOf hZ rfl f138_0
  obtain ⟨_, _, ⟨T160, L160, k160, n160⟩, -, X160, ⟨Lc160, hQ160, l160, y160, z160⟩, st160⟩ := X138.virtualBack hx (y := oM49) (z := oM49) hown (mvT hZ (ow hw 135 rfl)) (mvT hZ (ow hw 136 rfl)) (notFace_of_selects (args := #[]) (mvT hZ (ow hw 138 rfl))) (mvT hZ (ow hw 138 rfl)) (mvT hZ (ow hw 137 rfl)) (by decide) (backOf (W := 0) (rm23 l Z a0 hw [] b1 va2_139 kv2_140 bc2_141 nv2_142 xs2_143 cn2_144 (((([] ++ u_s) ++ [58, 47, 47]) ++ u_h) ++ u_p) cs T138.heap n0 Z146 f138_0 f138_1 f138_2 f138_3 f138_4 f138_5 (by first | assumption | decide | omega) (by first | assumption | decide | omega) (by simp only [List.length_append, List.length_cons, List.length_nil]; omega) Cs hcs fa159) hZ (ow hw 139 rfl) (ow hw 69 rfl) (by decide) (by decide)) q160a q160c (g := (mkF m 33 #[oa r, .unset] [(.ref b1)])) rfl (by rw [hml]; rfl) (Steps.refl _) (argsL := []) (rest := []) (lenOf pd42 rfl) rfl (Nat.le_of_eq rfl) (hb hby d12_33) (fun _ _ => ⟨rfl, rfl, (by decide : 8 + 2 ≤ _), (by decide : 164 + 36 ≤ _)⟩)
  dsimp only [Pt.U, Pt.locs, Pt.cells, Pt.slots] at X160 l160 y160 z160 st160 hQ160
  subst l160 y160 z160
  obtain ⟨sa_161, vb_162, kb_163, kc_164, nb_165, vs_166, rfl, N160q, K160, u160_0, u160_1, u160_2, u160_3, u160_4, f160_0, f160_1, f160_2, f160_3⟩ := hQ160
  have N160 := Fr.app N138 N160q
  have hk167 := Nat.le_trans hk145 K160.1
  have Z168 : n0 ≤ T160.heap.size := Nat.le_trans Z146 K160.1
  have K169 : Keep h0 T160.heap [] := K147.trans K160 all0
  have ne170 := own_nc (((((((Er.ext E1).keep K15).keep K38).ext E57).keep K82).keep K110).keep K138).lt u160_1
  have ne171 := own_nc (((((fa33.keep K38).ext E57).keep K82).keep K110).keep K138).lt u160_1
  have ne172 := own_nc (((((fa36.keep K38 (ninS ne4 (ninS ne23 nin0))).ext E57).keep K82 (ninS ne4 (ninS ne50 nin0))).keep K110 (ninS ne4 (ninS ne94 nin0))).keep K138 (ninS ne4 (ninS ne122 nin0))).lt u160_1
  have ne173 := own_nc ((fa105.keep K110).keep K138).lt u160_1
  have ne174 := own_nc ((fa108.keep K110 (ninS ne6 (ninS ne96 nin0))).keep K138 (ninS ne6 (ninS ne124 nin0))).lt u160_1
  have ne175 := own_nc (fa133.keep K138).lt u160_1
  have ne176 := own_nc (fa136.keep K138 (ninS ne8 (ninS ne126 nin0))).lt u160_1
  have ne177 := own_nc (((((((Sq0.ext E1).keep K15).keep K38).ext E57).keep K82).keep K110).keep K138).lt u160_1
  have ne178 := own_nc (((((((Sq3.ext E1).keep K15 (ninS ne10 nin0)).keep K38 (ninS ne10 (ninS ne29 nin0))).ext E57).keep K82 (ninS ne10 (ninS ne56 nin0))).keep K110 (ninS ne10 (ninS ne100 nin0))).keep K138 (ninS ne10 (ninS ne128 nin0))).lt u160_1
  have ne179 := own_nc f138_0.lt u160_1
  have ne180 := own_nc (((fe57.keep K82).keep K110).keep K138).lt u160_1
  have ne181 := own_nc (((fr57.keep K82 (ninS (Ne.symm ne71.2) (ninS (Ne.symm ne73.2) nin0))).keep K110 (ninS (Ne.symm ne71.2) (ninS ne102 nin0))).keep K138 (ninS (Ne.symm ne71.2) (ninS ne130 nin0))).lt u160_1
  have ne182 := own_nc f138_5.lt u160_1
  have sz_sa_161 : h0.size ≤ sa_161 := Nat.le_trans K147.1 u160_1
  have ne183 := own_nc (((((((Er.ext E1).keep K15).keep K38).ext E57).keep K82).keep K110).keep K138).lt u160_3
  have ne184 := own_nc (((((fa33.keep K38).ext E57).keep K82).keep K110).keep K138).lt u160_3
  have ne185 := own_nc (((((fa36.keep K38 (ninS ne4 (ninS ne23 nin0))).ext E57).keep K82 (ninS ne4 (ninS ne50 nin0))).keep K110 (ninS ne4 (ninS ne94 nin0))).keep K138 (ninS ne4 (ninS ne122 nin0))).lt u160_3
  have ne186 := own_nc ((fa105.keep K110).keep K138).lt u160_3
  have ne187 := own_nc ((fa108.keep K110 (ninS ne6 (ninS ne96 nin0))).keep K138 (ninS ne6 (ninS ne124 nin0))).lt u160_3
  have ne188 := own_nc (fa133.keep K138).lt u160_3
  have ne189 := own_nc (fa136.keep K138 (ninS ne8 (ninS ne126 nin0))).lt u160_3
  have ne190 := own_nc (((((((Sq0.ext E1).keep K15).keep K38).ext E57).keep K82).keep K110).keep K138).lt u160_3
  have ne191 := own_nc (((((((Sq3.ext E1).keep K15 (ninS ne10 nin0)).keep K38 (ninS ne10 (ninS ne29 nin0))).ext E57).keep K82 (ninS ne10 (ninS ne56 nin0))).keep K110 (ninS ne10 (ninS ne100 nin0))).keep K138 (ninS ne10 (ninS ne128 nin0))).lt u160_3
  have ne192 := own_nc f138_0.lt u160_3
  have ne193 := own_nc (((fe57.keep K82).keep K110).keep K138).lt u160_3
  have ne194 := own_nc (((fr57.keep K82 (ninS (Ne.symm ne71.2) (ninS (Ne.symm ne73.2) nin0))).keep K110 (ninS (Ne.symm ne71.2) (ninS ne102 nin0))).keep K138 (ninS (Ne.symm ne71.2) (ninS ne130 nin0))).lt u160_3
  have ne195 := own_nc f138_5.lt u160_3
  have sz_vb_162 : h0.size ≤ vb_162 := Nat.le_trans K147.1 u160_3
  have fa196 := ((((((((Rq.ext E1).keep K15 (ninS ne2 nin0)).keep K38 (ninS ne2 (ninS ne21 nin0))).ext E57).keep K82 (ninS ne2 (ninS ne48 nin0))).keep K110 (ninS ne2 (ninS ne92 nin0))).keep K138 (ninS ne2 (ninS ne120 nin0))).keep K160 nin0)
  obtain ⟨T197, X197, e197, st197⟩ := getF X160 hx hZ hown (host := "") (Or.inl (ow hw 60 rfl)) Via.refl rfl fa196 (g := (mkF m 38 #[oa r, oa sa_161] [(.ref r)])) rfl rfl (hb hby d12_38)
  obtain ⟨T198, h198, X198, e198, E198, A198, D198, -, st198⟩ := newO X197 hx hZ hown (ow hw 67 rfl) (ow hw 68 rfl) (ow hw 69 rfl) e197 (g := (mkF m 48 #[oa r, oa sa_161] [])) rfl (hb hby d12_48) (by decide) (by decide)
  obtain ⟨b198, g198⟩ : ∃ z, z = T160.heap.size := ⟨_, rfl⟩
  rw [← g198] at A198 D198 st198
  have fa199 := ((((((((Er.ext E1).keep K15).keep K38).ext E57).keep K82).keep K110).keep K138).keep K160)
  have ne200 := own_nb fa199.lt g198
  have fa201 := ((((((fa33.keep K38).ext E57).keep K82).keep K110).keep K138).keep K160)
  have ne202 := own_nb fa201.lt g198
  have fa203 := ((((((fa36.keep K38 (ninS ne4 (ninS ne23 nin0))).ext E57).keep K82 (ninS ne4 (ninS ne50 nin0))).keep K110 (ninS ne4 (ninS ne94 nin0))).keep K138 (ninS ne4 (ninS ne122 nin0))).keep K160 nin0)
  have ne204 := own_nb fa203.lt g198
  have fa205 := (((fa105.keep K110).keep K138).keep K160)
  have ne206 := own_nb fa205.lt g198
  have fa207 := (((fa108.keep K110 (ninS ne6 (ninS ne96 nin0))).keep K138 (ninS ne6 (ninS ne124 nin0))).keep K160 nin0)
  have ne208 := own_nb fa207.lt g198
  have fa209 := ((fa133.keep K138).keep K160)
  have ne210 := own_nb fa209.lt g198
  have fa211 := ((fa136.keep K138 (ninS ne8 (ninS ne126 nin0))).keep K160 nin0)
  have ne212 := own_nb fa211.lt g198
  have fa213 := ((((((((Sq0.ext E1).keep K15).keep K38).ext E57).keep K82).keep K110).keep K138).keep K160)
  have ne214 := own_nb fa213.lt g198
  have fa215 := ((((((((Sq3.ext E1).keep K15 (ninS ne10 nin0)).keep K38 (ninS ne10 (ninS ne29 nin0))).ext E57).keep K82 (ninS ne10 (ninS ne56 nin0))).keep K110 (ninS ne10 (ninS ne100 nin0))).keep K138 (ninS ne10 (ninS ne128 nin0))).keep K160 nin0)
  have ne216 := own_nb fa215.lt g198
  have fa217 := ((((fr57.keep K82 (ninS (Ne.symm ne71.2) (ninS (Ne.symm ne73.2) nin0))).keep K110 (ninS (Ne.symm ne71.2) (ninS ne102 nin0))).keep K138 (ninS (Ne.symm ne71.2) (ninS ne130 nin0))).keep K160 nin0)
  have ne218 := own_nb fa217.lt g198
  have ne219 := own_nb f160_0.lt g198
  have ne220 := own_nb f160_3.lt g198
  have gn_b198 : n0 ≤ b198 := Nat.le_trans Z168 (Nat.le_of_eq g198.symm)
  have sz_b198 : h0.size ≤ b198 := Nat.le_trans K169.1 (Nat.le_of_eq g198.symm)
  have hk221 := Nat.le_trans hk167 E198.1
  have Z222 : n0 ≤ h198.size := Nat.le_trans Z168 E198.1
  have K223 : Keep h0 h198 [] := K169.ext E198
  have F_value_b198 : Fld Z h198 b198 oA "value" "[B" .null := D198 (Or.inl (ow hw 82 rfl)) (ty := (.array .byte)) (by decide)
  have F_coder_b198 : Fld Z h198 b198 oA "coder" "B" (.int 0) := D198 (Or.inl (ow hw 84 rfl)) (ty := .byte) (by decide)
  have F_count_b198 : Fld Z h198 b198 oA "count" "I" (.int 0) := D198 (Or.inl (ow hw 106 rfl)) (ty := .int) (by decide)
  have F_maybeLatin1_b198 : Fld Z h198 b198 oA "maybeLatin1" "Z" (.int 0) := D198 (Or.inl (ow hw 255 rfl)) (ty := .boolean) (by decide)
  have fa224 := ((fa159.keep K160 all0).ext E198)
  obtain ⟨_, _, ⟨T225, L225, k225, n225⟩, -, X225, ⟨Lc225, hQ225, l225, y225, z225⟩, st225⟩ := X198.specialBack hx (y := oM29) rfl hown (mvT hZ (ow hw 70 rfl)) (mvT hZ (ow hw 71 rfl)) (mvT hZ (ow hw 72 rfl)) (by decide) (backOf (W := 1) (rm13 l Z a0 hw [] b198 .null (.int 0) cs h198 n0 Z222 A198 F_value_b198 F_coder_b198 F_count_b198 F_maybeLatin1_b198 gn_b198 Cs hcs fa224) hZ (ow hw 72 rfl) (ow hw 69 rfl) (by decide) (by decide)) (g := (mkF m 52 #[oa r, oa sa_161] [(.ref b198), (.ref b198)])) rfl (by rw [hml]; rfl) (Steps.refl _) (a := b198) (argsL := []) (rest := [(.ref b198)]) (lenOf pd28 rfl) rfl (Nat.le_of_eq rfl) (hb hby d12_52) (fun _ _ => ⟨rfl, e198, (by decide : 11 + 1 ≤ _), (by decide : 204 + 16 ≤ _)⟩)
  dsimp only [Pt.U, Pt.locs, Pt.cells, Pt.slots] at X225 l225 y225 z225 st225 hQ225
  subst l225 y225 z225
  obtain ⟨va_226, kv_227, rfl, N225q, K225, u225_0, u225_1, f225_0, f225_1, f225_2, f225_3, f225_4, f225_5⟩ := hQ225
  have N225 := Fr.app N160 N225q
  have hk228 := Nat.le_trans hk221 K225.1
  have Z229 : n0 ≤ T225.heap.size := Nat.le_trans Z222 K225.1
  have K230 : Keep h0 T225.heap [] := K223.trans K225 (allS (P := fun x => x ∈ _ ∨ _) (Or.inr sz_b198) all0)
  have ne231 := own_nc (fa199.ext E198).lt u225_1
  have ne232 := own_nc (fa201.ext E198).lt u225_1
  have ne233 := own_nc (fa203.ext E198).lt u225_1
  have ne234 := own_nc (fa205.ext E198).lt u225_1
  have ne235 := own_nc (fa207.ext E198).lt u225_1
  have ne236 := own_nc (fa209.ext E198).lt u225_1
  have ne237 := own_nc (fa211.ext E198).lt u225_1
  have ne238 := own_nc (fa213.ext E198).lt u225_1
  have ne239 := own_nc (fa215.ext E198).lt u225_1
  have ne240 := own_nc (fa217.ext E198).lt u225_1
  have ne241 := own_nc (f160_0.ext E198).lt u225_1
  have ne242 := own_nc (f160_3.ext E198).lt u225_1
  have ne243 := own_nc A198.lt u225_1
  have sz_va_226 : h0.size ≤ va_226 := Nat.le_trans K223.1 u225_1
  have fa244 := ((f160_0.ext E198).keep K225)
  have fa245 := ((f160_1.ext E198).keep K225 (ninS ne219 nin0))
  have fa246 := ((f160_2.ext E198).keep K225 (ninS ne219 nin0))
  have fa247 := ((f160_3.ext E198).keep K225 (ninS ne220 nin0))
  have fa248 := (fa224.keep K225 (allS (P := fun x => n0 ≤ x) gn_b198 all0))
  obtain ⟨cq249, kq249, q249a, q249b, q249c⟩ := isOf hZ rfl f225_0
  obtain ⟨_, _, ⟨T249, L249, k249, n249⟩, -, X249, ⟨Lc249, hQ249, l249, y249, z249⟩, st249⟩ := X225.virtualBack hx (y := oM39) (z := oM39) hown (mvT hZ (ow hw 85 rfl)) (mvT hZ (ow hw 86 rfl)) (notFace_of_selects (args := #[]) (mvT hZ (ow hw 88 rfl))) (mvT hZ (ow hw 88 rfl)) (mvT hZ (ow hw 87 rfl)) (by decide) (backOf (W := 0) (rm15 l Z a0 hw [] b198 sa_161 va_226 kv_227 (0 : Int32) (16 : Int32) [] (0 : Int32) vb_162 kb_163 kc_164 nb_165 vs_166 [] (((([] ++ u_s) ++ [58, 47, 47]) ++ u_h) ++ u_p) cs fm T225.heap n0 Z229 f225_0 f225_1 f225_2 f225_3 f225_4 f225_5 fa244 fa245 fa246 fa247 gn_b198 u225_0 ne243 ne219 ne241 ne220 ne242 own_sb0 (by first | assumption | decide | omega) (by decide) (by simp only [List.length_append, List.length_cons, List.length_nil]; omega) Cs hcs fa248 Fm hfm Ua Uh Ul) hZ (ow hw 89 rfl) (ow hw 69 rfl) (by decide) (by decide)) q249a q249c (g := (mkF m 56 #[oa r, oa sa_161] [(.ref sa_161), (.ref b198)])) rfl (by rw [hml]; rfl) (Steps.refl _) (argsL := [(.ref sa_161)]) (rest := []) (lenOf pd41 rfl) rfl (Nat.le_of_eq rfl) (hb hby d12_56) (fun _ _ => ⟨rfl, rfl, (by decide : 12 + 1 ≤ _), (by decide : 220 + 32 ≤ _)⟩)
  dsimp only [Pt.U, Pt.locs, Pt.cells, Pt.slots] at X249 l249 y249 z249 st249 hQ249
  subst l249 y249 z249
  obtain ⟨va2_250, kv2_251, bc2_252, nv2_253, xs2_254, cn2_255, rfl, N249q, K249, u249_0, u249_1, u249_2, u249_3, u249_4, f249_0, f249_1, f249_2, f249_3, f249_4, f249_5⟩ := hQ249
  have N249 := Fr.app N225 N249q
  have hk256 := Nat.le_trans hk228 K249.1
  have Z257 : n0 ≤ T249.heap.size := Nat.le_trans Z229 K249.1
  have K258 : Keep h0 T249.heap [] := K230.trans K249 (allS (P := fun x => x ∈ _ ∨ _) (Or.inr sz_b198) (allS (P := fun x => x ∈ _ ∨ _) (Or.inr sz_va_226) all0))
  have ne259 : r ≠ va2_250 := own_nev u249_2 ne231 ((fa199.ext E198).keep K225).lt
  have ne260 : sa_s ≠ va2_250 := own_nev u249_2 ne232 ((fa201.ext E198).keep K225).lt
  have ne261 : vb_s ≠ va2_250 := own_nev u249_2 ne233 ((fa203.ext E198).keep K225 (ninS ne204 nin0)).lt
  have ne262 : sa_h ≠ va2_250 := own_nev u249_2 ne234 ((fa205.ext E198).keep K225).lt
  have ne263 : vb_h ≠ va2_250 := own_nev u249_2 ne235 ((fa207.ext E198).keep K225 (ninS ne208 nin0)).lt
  have ne264 : sa_p ≠ va2_250 := own_nev u249_2 ne236 ((fa209.ext E198).keep K225).lt
  have ne265 : vb_p ≠ va2_250 := own_nev u249_2 ne237 ((fa211.ext E198).keep K225 (ninS ne212 nin0)).lt
  have ne266 : sa_q ≠ va2_250 := own_nev u249_2 ne238 ((fa213.ext E198).keep K225).lt
  have ne267 : vb_q ≠ va2_250 := own_nev u249_2 ne239 ((fa215.ext E198).keep K225 (ninS ne216 nin0)).lt
  have ne268 : vb57 ≠ va2_250 := own_nev u249_2 ne240 ((fa217.ext E198).keep K225 (ninS ne218 nin0)).lt
  have ne269 : sa_161 ≠ va2_250 := own_nev u249_2 ne241 fa244.lt
  have ne270 : vb_162 ≠ va2_250 := own_nev u249_2 ne242 fa247.lt
  have sz_va2_250 : h0.size ≤ va2_250 := own_szv u249_2 sz_va_226 K230.1
  have ch272 := ch65.trans hC57
  have ch273 := ch272.trans (CHr.keep K82 (own_aS sf72 (own_aS sf74 all0)) ch272.1)
  have sf274 := own_sfv u82_2 sf74
  have sf275 := Safe.keep K82 (own_aS sf72 (own_aS sf74 all0)) ch272.1 sf274
  have sf276 := Safe.keep K82 (own_aS sf72 (own_aS sf74 all0)) ch272.1 sf72
  have ch277 := ch273.trans (CHr.keep K110 (own_aS sf276 (own_aS sf275 all0)) ch273.1)
  have sf278 := own_sfv u110_2 sf275
  have sf279 := Safe.keep K110 (own_aS sf276 (own_aS sf275 all0)) ch273.1 sf278
  have sf280 := Safe.keep K110 (own_aS sf276 (own_aS sf275 all0)) ch273.1 sf276
  have ch281 := ch277.trans (CHr.keep K138 (own_aS sf280 (own_aS sf279 all0)) ch277.1)
  have ch282 := ch281.trans (CHr.keep K160 all0 ch281.1)
  have ch283 := ch282.trans (CHr.ext E198 ch282.1)
  have sf284 := (Safe.new (Nat.le_of_eq g198.symm) : Safe Z own_EL T57.vm _ b198)
  have sf285 := Safe.ext E198 ch282.1 sf284
  have ch286 := ch283.trans (CHr.keep K225 (own_aS sf285 all0) ch283.1)
  have sf287 := (Safe.new u225_1 : Safe Z own_EL T57.vm _ va_226)
  have sf288 := Safe.keep K225 (own_aS sf285 all0) ch283.1 sf287
  have sf289 := Safe.keep K225 (own_aS sf285 all0) ch283.1 sf285
  have ch290 := ch286.trans (CHr.keep K249 (own_aS sf289 (own_aS sf288 all0)) ch286.1)
  have sf291 := Safe.keep K249 (own_aS sf289 (own_aS sf288 all0)) ch286.1 sf289
  have sf292 := own_sfv u249_2 sf288
  have sf293 := Safe.keep K249 (own_aS sf289 (own_aS sf288 all0)) ch286.1 sf292
  obtain ⟨b271, T271, h271, k271, vb271, kb271, X271, e271, E271, hS271, hk271, hZ, hown, fe271, fc271, fv271, fr271, -, -, hC271, -, hne271, st271⟩ := ldcCH X249 hx hZ hown (ow hw 256 rfl) hwS rfl hS57 hk256 hEL (List.mem_of_getElem? (i := 1) rfl) ch290.1 (vs := (own_lb [63])) (z := (1 : Int32)) own_t1 (by decide) rfl (g := (mkF m 59 #[oa r, oa sa_161] [(.ref b198)])) rfl (hb hby d12_59) (n := 4) (by decide) (by decide) (by decide) (by decide)
  have Z294 : n0 ≤ h271.size := Nat.le_trans Z257 E271.1
  have K295 : Keep h0 h271 [] := K258.ext E271
  have sf297 := CHr.safe hC271 f249_0.lt sf291
  have ne296 := hne271 b198 sf297
  have sf299 := CHr.safe hC271 f249_5.lt sf293
  have ne298 := hne271 va2_250 sf299
  have fa300 := (f249_0.ext E271)
  have fa301 := (f249_1.ext E271)
  have fa302 := (f249_2.ext E271)
  have fa303 := (f249_3.ext E271)
  have fa304 := (f249_4.ext E271)
  have fa305 := (f249_5.ext E271)
  have fa306 := ((fa248.keep K249 (allS (P := fun x => n0 ≤ x) gn_b198 (allS (P := fun x => n0 ≤ x) u225_0 all0))).ext E271)
  obtain ⟨cq307, kq307, q307a, q307b, q307c⟩ := isOf hZ e271 fa300
  obtain ⟨_, _, ⟨T307, L307, k307, n307⟩, -, X307, ⟨Lc307, hQ307, l307, y307, z307⟩, st307⟩ := X271.virtualBack hx (y := oM39) (z := oM39) hown (mvT hZ (ow hw 85 rfl)) (mvT hZ (ow hw 86 rfl)) (notFace_of_selects (args := #[]) (mvT hZ (ow hw 88 rfl))) (mvT hZ (ow hw 88 rfl)) (mvT hZ (ow hw 87 rfl)) (by decide) (backOf (W := 0) (rm15 l Z a0 hw [] b198 b271 va2_250 kv2_251 bc2_252 nv2_253 xs2_254 cn2_255 vb271 kb271 (0 : Int32) (1 : Int32) (own_lb [63]) ([] ++ (((([] ++ u_s) ++ [58, 47, 47]) ++ u_h) ++ u_p)) [63] cs fm h271 n0 Z294 fa300 fa301 fa302 fa303 fa304 fa305 fe271 fc271 fv271 fr271 gn_b198 u249_0 u249_1 (Ne.symm ne296.1) (Ne.symm ne298.1) (Ne.symm ne296.2) (Ne.symm ne298.2) (by first | assumption | decide | omega) own_k1 (by first | assumption | decide | omega) (by simp only [List.length_append, List.length_cons, List.length_nil]; omega) Cs hcs fa306 Fm hfm Ua Uh Ul) hZ (ow hw 89 rfl) (ow hw 69 rfl) (by decide) (by decide)) q307a q307c (g := (mkF m 61 #[oa r, oa sa_161] [(.ref b271), (.ref b198)])) rfl (by rw [hml]; rfl) (Steps.refl _) (argsL := [(.ref b271)]) (rest := []) (lenOf pd41 rfl) rfl (Nat.le_of_eq rfl) (hb hby d12_61) (fun _ _ => ⟨rfl, e271, (by decide : 15 + 1 ≤ _), (by decide : 260 + 32 ≤ _)⟩)
  dsimp only [Pt.U, Pt.locs, Pt.cells, Pt.slots] at X307 l307 y307 z307 st307 hQ307
  subst l307 y307 z307
  obtain ⟨va2_308, kv2_309, bc2_310, nv2_311, xs2_312, cn2_313, rfl, N307q, K307, u307_0, u307_1, u307_2, u307_3, u307_4, f307_0, f307_1, f307_2, f307_3, f307_4, f307_5⟩ := hQ307
  have N307 := Fr.app N249 N307q
  have hk314 := Nat.le_trans hk271 K307.1
  have Z315 : n0 ≤ T307.heap.size := Nat.le_trans Z294 K307.1
  have K316 : Keep h0 T307.heap [] := K295.trans K307 (allS (P := fun x => x ∈ _ ∨ _) (Or.inr sz_b198) (allS (P := fun x => x ∈ _ ∨ _) (Or.inr sz_va2_250) all0))
  have ne317 : r ≠ va2_308 := own_nev u307_2 ne259 ((((fa199.ext E198).keep K225).keep K249).ext E271).lt
  have ne318 : sa_s ≠ va2_308 := own_nev u307_2 ne260 ((((fa201.ext E198).keep K225).keep K249).ext E271).lt
  have ne319 : vb_s ≠ va2_308 := own_nev u307_2 ne261 ((((fa203.ext E198).keep K225 (ninS ne204 nin0)).keep K249 (ninS ne204 (ninS ne233 nin0))).ext E271).lt
  have ne320 : sa_h ≠ va2_308 := own_nev u307_2 ne262 ((((fa205.ext E198).keep K225).keep K249).ext E271).lt
  have ne321 : vb_h ≠ va2_308 := own_nev u307_2 ne263 ((((fa207.ext E198).keep K225 (ninS ne208 nin0)).keep K249 (ninS ne208 (ninS ne235 nin0))).ext E271).lt
  have ne322 : sa_p ≠ va2_308 := own_nev u307_2 ne264 ((((fa209.ext E198).keep K225).keep K249).ext E271).lt
  have ne323 : vb_p ≠ va2_308 := own_nev u307_2 ne265 ((((fa211.ext E198).keep K225 (ninS ne212 nin0)).keep K249 (ninS ne212 (ninS ne237 nin0))).ext E271).lt
  have ne324 : sa_q ≠ va2_308 := own_nev u307_2 ne266 ((((fa213.ext E198).keep K225).keep K249).ext E271).lt
  have ne325 : vb_q ≠ va2_308 := own_nev u307_2 ne267 ((((fa215.ext E198).keep K225 (ninS ne216 nin0)).keep K249 (ninS ne216 (ninS ne239 nin0))).ext E271).lt
  have ne326 : vb57 ≠ va2_308 := own_nev u307_2 ne268 ((((fa217.ext E198).keep K225 (ninS ne218 nin0)).keep K249 (ninS ne218 (ninS ne240 nin0))).ext E271).lt
  have ne327 : sa_161 ≠ va2_308 := own_nev u307_2 ne269 ((fa244.keep K249).ext E271).lt
  have ne328 : vb_162 ≠ va2_308 := own_nev u307_2 ne270 ((fa247.keep K249 (ninS ne220 (ninS ne242 nin0))).ext E271).lt
  have ne329 : b271 ≠ va2_308 := own_nev u307_2 (Ne.symm ne298.1) fe271.lt
  have ne330 : vb271 ≠ va2_308 := own_nev u307_2 (Ne.symm ne298.2) fr271.lt
  have sz_va2_308 : h0.size ≤ va2_308 := own_szv u307_2 sz_va2_250 K295.1
  have fa331 := (((((fa196.ext E198).keep K225 (ninS ne200 nin0)).keep K249 (ninS ne200 (ninS ne231 nin0))).ext E271).keep K307 (ninS ne200 (ninS ne259 nin0)))
  obtain ⟨T332, X332, e332, st332⟩ := getF X307 hx hZ hown (host := "") (Or.inl (ow hw 60 rfl)) Via.refl rfl fa331 (g := (mkF m 65 #[oa r, oa sa_161] [(.ref r), (.ref b198)])) rfl rfl (hb hby d12_65)
  have fa333 := (((((fa213.ext E198).keep K225).keep K249).ext E271).keep K307)
  have fa334 := (((((((((((((Sq1.ext E1).keep K15 (ninS ne9 nin0)).keep K38 (ninS ne9 (ninS ne28 nin0))).ext E57).keep K82 (ninS ne9 (ninS ne55 nin0))).keep K110 (ninS ne9 (ninS ne99 nin0))).keep K138 (ninS ne9 (ninS ne127 nin0))).keep K160 nin0).ext E198).keep K225 (ninS ne214 nin0)).keep K249 (ninS ne214 (ninS ne238 nin0))).ext E271).keep K307 (ninS ne214 (ninS ne266 nin0)))
  have fa335 := (((((((((((((Sq2.ext E1).keep K15 (ninS ne9 nin0)).keep K38 (ninS ne9 (ninS ne28 nin0))).ext E57).keep K82 (ninS ne9 (ninS ne55 nin0))).keep K110 (ninS ne9 (ninS ne99 nin0))).keep K138 (ninS ne9 (ninS ne127 nin0))).keep K160 nin0).ext E198).keep K225 (ninS ne214 nin0)).keep K249 (ninS ne214 (ninS ne238 nin0))).ext E271).keep K307 (ninS ne214 (ninS ne266 nin0)))
  have fa336 := (((((fa215.ext E198).keep K225 (ninS ne216 nin0)).keep K249 (ninS ne216 (ninS ne239 nin0))).ext E271).keep K307 (ninS ne216 (ninS ne267 nin0)))
  have fa337 := (fa306.keep K307 (allS (P := fun x => n0 ≤ x) gn_b198 (allS (P := fun x => n0 ≤ x) u249_0 all0)))
  obtain ⟨cq338, kq338, q338a, q338b, q338c⟩ := isOf hZ e332 f307_0
  obtain ⟨_, _, ⟨T338, L338, k338, n338⟩, -, X338, ⟨Lc338, hQ338, l338, y338, z338⟩, st338⟩ := X332.virtualBack hx (y := oM39) (z := oM39) hown (mvT hZ (ow hw 85 rfl)) (mvT hZ (ow hw 86 rfl)) (notFace_of_selects (args := #[]) (mvT hZ (ow hw 88 rfl))) (mvT hZ (ow hw 88 rfl)) (mvT hZ (ow hw 87 rfl)) (by decide) (backOf (W := 0) (rm15 l Z a0 hw [] b198 sa_q va2_308 kv2_309 bc2_310 nv2_311 xs2_312 cn2_313 vb_q kb_q kc_q nb_q vs_q (([] ++ (((([] ++ u_s) ++ [58, 47, 47]) ++ u_h) ++ u_p)) ++ [63]) u_q cs fm T307.heap n0 Z315 f307_0 f307_1 f307_2 f307_3 f307_4 f307_5 fa333 fa334 fa335 fa336 gn_b198 u307_0 u307_1 ne214 ne324 ne216 ne325 (by first | assumption | decide | omega) he_q (by first | assumption | decide | omega) (by simp only [List.length_append, List.length_cons, List.length_nil]; omega) Cs hcs fa337 Fm hfm Ua Uh Ul) hZ (ow hw 89 rfl) (ow hw 69 rfl) (by decide) (by decide)) q338a q338c (g := (mkF m 68 #[oa r, oa sa_161] [(.ref sa_q), (.ref b198)])) rfl (by rw [hml]; rfl) (Steps.refl _) (argsL := [(.ref sa_q)]) (rest := []) (lenOf pd41 rfl) rfl (Nat.le_of_eq rfl) (hb hby d12_68) (fun _ _ => ⟨rfl, e332, (by decide : 16 + 1 ≤ _), (by decide : 292 + 32 ≤ _)⟩)
  dsimp only [Pt.U, Pt.locs, Pt.cells, Pt.slots] at X338 l338 y338 z338 st338 hQ338
  subst l338 y338 z338
  obtain ⟨va2_339, kv2_340, bc2_341, nv2_342, xs2_343, cn2_344, rfl, N338q, K338, u338_0, u338_1, u338_2, u338_3, u338_4, f338_0, f338_1, f338_2, f338_3, f338_4, f338_5⟩ := hQ338
  have N338 := Fr.app N307 N338q
  have hk345 := Nat.le_trans hk314 K338.1
  have Z346 : n0 ≤ T338.heap.size := Nat.le_trans Z315 K338.1
  have K347 : Keep h0 T338.heap [] := K316.trans K338 (allS (P := fun x => x ∈ _ ∨ _) (Or.inr sz_b198) (allS (P := fun x => x ∈ _ ∨ _) (Or.inr sz_va2_308) all0))
  have ne348 : r ≠ va2_339 := own_nev u338_2 ne317 (((((fa199.ext E198).keep K225).keep K249).ext E271).keep K307).lt
  have ne349 : sa_s ≠ va2_339 := own_nev u338_2 ne318 (((((fa201.ext E198).keep K225).keep K249).ext E271).keep K307).lt
  have ne350 : vb_s ≠ va2_339 := own_nev u338_2 ne319 (((((fa203.ext E198).keep K225 (ninS ne204 nin0)).keep K249 (ninS ne204 (ninS ne233 nin0))).ext E271).keep K307 (ninS ne204 (ninS ne261 nin0))).lt
  have ne351 : sa_h ≠ va2_339 := own_nev u338_2 ne320 (((((fa205.ext E198).keep K225).keep K249).ext E271).keep K307).lt
  have ne352 : vb_h ≠ va2_339 := own_nev u338_2 ne321 (((((fa207.ext E198).keep K225 (ninS ne208 nin0)).keep K249 (ninS ne208 (ninS ne235 nin0))).ext E271).keep K307 (ninS ne208 (ninS ne263 nin0))).lt
  have ne353 : sa_p ≠ va2_339 := own_nev u338_2 ne322 (((((fa209.ext E198).keep K225).keep K249).ext E271).keep K307).lt
  have ne354 : vb_p ≠ va2_339 := own_nev u338_2 ne323 (((((fa211.ext E198).keep K225 (ninS ne212 nin0)).keep K249 (ninS ne212 (ninS ne237 nin0))).ext E271).keep K307 (ninS ne212 (ninS ne265 nin0))).lt
  have ne355 : sa_q ≠ va2_339 := own_nev u338_2 ne324 fa333.lt
  have ne356 : vb_q ≠ va2_339 := own_nev u338_2 ne325 fa336.lt
  have ne357 : vb57 ≠ va2_339 := own_nev u338_2 ne326 (((((fa217.ext E198).keep K225 (ninS ne218 nin0)).keep K249 (ninS ne218 (ninS ne240 nin0))).ext E271).keep K307 (ninS ne218 (ninS ne268 nin0))).lt
  have ne358 : sa_161 ≠ va2_339 := own_nev u338_2 ne327 (((fa244.keep K249).ext E271).keep K307).lt
  have ne359 : vb_162 ≠ va2_339 := own_nev u338_2 ne328 (((fa247.keep K249 (ninS ne220 (ninS ne242 nin0))).ext E271).keep K307 (ninS ne220 (ninS ne270 nin0))).lt
  have ne360 : b271 ≠ va2_339 := own_nev u338_2 ne329 (fe271.keep K307).lt
  have ne361 : vb271 ≠ va2_339 := own_nev u338_2 ne330 (fr271.keep K307 (ninS (Ne.symm ne296.2) (ninS (Ne.symm ne298.2) nin0))).lt
  have sz_va2_339 : h0.size ≤ va2_339 := own_szv u338_2 sz_va2_308 K316.1
  have fa362 := (fa337.keep K338 (allS (P := fun x => n0 ≤ x) gn_b198 (allS (P := fun x => n0 ≤ x) u307_0 all0)))
  obtain ⟨cq363, kq363, q363a, q363b, q363c⟩ := isOf hZ rfl f338_0
  obtain ⟨_, _, ⟨T363, L363, k363, n363⟩, -, X363, ⟨Lc363, hQ363, l363, y363, z363⟩, st363⟩ := X338.virtualBack hx (y := oM49) (z := oM49) hown (mvT hZ (ow hw 135 rfl)) (mvT hZ (ow hw 136 rfl)) (notFace_of_selects (args := #[]) (mvT hZ (ow hw 138 rfl))) (mvT hZ (ow hw 138 rfl)) (mvT hZ (ow hw 137 rfl)) (by decide) (backOf (W := 0) (rm23 l Z a0 hw [] b198 va2_339 kv2_340 bc2_341 nv2_342 xs2_343 cn2_344 ((([] ++ (((([] ++ u_s) ++ [58, 47, 47]) ++ u_h) ++ u_p)) ++ [63]) ++ u_q) cs T338.heap n0 Z346 f338_0 f338_1 f338_2 f338_3 f338_4 f338_5 (by first | assumption | decide | omega) (by first | assumption | decide | omega) (by simp only [List.length_append, List.length_cons, List.length_nil]; omega) Cs hcs fa362) hZ (ow hw 139 rfl) (ow hw 69 rfl) (by decide) (by decide)) q363a q363c (g := (mkF m 71 #[oa r, oa sa_161] [(.ref b198)])) rfl (by rw [hml]; rfl) (Steps.refl _) (argsL := []) (rest := []) (lenOf pd42 rfl) rfl (Nat.le_of_eq rfl) (hb hby d12_71) (fun _ _ => ⟨rfl, rfl, (by decide : 17 + 2 ≤ _), (by decide : 324 + 36 ≤ _)⟩)
  dsimp only [Pt.U, Pt.locs, Pt.cells, Pt.slots] at X363 l363 y363 z363 st363 hQ363
  subst l363 y363 z363
  obtain ⟨sa_364, vb_365, kb_366, kc_367, nb_368, vs_369, rfl, N363q, K363, u363_0, u363_1, u363_2, u363_3, u363_4, f363_0, f363_1, f363_2, f363_3⟩ := hQ363
  have N363 := Fr.app N338 N363q
  have hk370 := Nat.le_trans hk345 K363.1
  have Z371 : n0 ≤ T363.heap.size := Nat.le_trans Z346 K363.1
  have K372 : Keep h0 T363.heap [] := K347.trans K363 all0
  have ne373 := own_nc ((((((fa199.ext E198).keep K225).keep K249).ext E271).keep K307).keep K338).lt u363_1
  have ne374 := own_nc ((((((fa201.ext E198).keep K225).keep K249).ext E271).keep K307).keep K338).lt u363_1
  have ne375 := own_nc ((((((fa203.ext E198).keep K225 (ninS ne204 nin0)).keep K249 (ninS ne204 (ninS ne233 nin0))).ext E271).keep K307 (ninS ne204 (ninS ne261 nin0))).keep K338 (ninS ne204 (ninS ne319 nin0))).lt u363_1
  have ne376 := own_nc ((((((fa205.ext E198).keep K225).keep K249).ext E271).keep K307).keep K338).lt u363_1
  have ne377 := own_nc ((((((fa207.ext E198).keep K225 (ninS ne208 nin0)).keep K249 (ninS ne208 (ninS ne235 nin0))).ext E271).keep K307 (ninS ne208 (ninS ne263 nin0))).keep K338 (ninS ne208 (ninS ne321 nin0))).lt u363_1
  have ne378 := own_nc ((((((fa209.ext E198).keep K225).keep K249).ext E271).keep K307).keep K338).lt u363_1
  have ne379 := own_nc ((((((fa211.ext E198).keep K225 (ninS ne212 nin0)).keep K249 (ninS ne212 (ninS ne237 nin0))).ext E271).keep K307 (ninS ne212 (ninS ne265 nin0))).keep K338 (ninS ne212 (ninS ne323 nin0))).lt u363_1
  have ne380 := own_nc (fa333.keep K338).lt u363_1
  have ne381 := own_nc (fa336.keep K338 (ninS ne216 (ninS ne325 nin0))).lt u363_1
  have ne382 := own_nc ((((((fa217.ext E198).keep K225 (ninS ne218 nin0)).keep K249 (ninS ne218 (ninS ne240 nin0))).ext E271).keep K307 (ninS ne218 (ninS ne268 nin0))).keep K338 (ninS ne218 (ninS ne326 nin0))).lt u363_1
  have ne383 := own_nc ((((fa244.keep K249).ext E271).keep K307).keep K338).lt u363_1
  have ne384 := own_nc ((((fa247.keep K249 (ninS ne220 (ninS ne242 nin0))).ext E271).keep K307 (ninS ne220 (ninS ne270 nin0))).keep K338 (ninS ne220 (ninS ne328 nin0))).lt u363_1
  have ne385 := own_nc f338_0.lt u363_1
  have ne386 := own_nc ((fe271.keep K307).keep K338).lt u363_1
  have ne387 := own_nc ((fr271.keep K307 (ninS (Ne.symm ne296.2) (ninS (Ne.symm ne298.2) nin0))).keep K338 (ninS (Ne.symm ne296.2) (ninS ne330 nin0))).lt u363_1
  have ne388 := own_nc f338_5.lt u363_1
  have sz_sa_364 : h0.size ≤ sa_364 := Nat.le_trans K347.1 u363_1
  have ne389 := own_nc ((((((fa199.ext E198).keep K225).keep K249).ext E271).keep K307).keep K338).lt u363_3
  have ne390 := own_nc ((((((fa201.ext E198).keep K225).keep K249).ext E271).keep K307).keep K338).lt u363_3
  have ne391 := own_nc ((((((fa203.ext E198).keep K225 (ninS ne204 nin0)).keep K249 (ninS ne204 (ninS ne233 nin0))).ext E271).keep K307 (ninS ne204 (ninS ne261 nin0))).keep K338 (ninS ne204 (ninS ne319 nin0))).lt u363_3
  have ne392 := own_nc ((((((fa205.ext E198).keep K225).keep K249).ext E271).keep K307).keep K338).lt u363_3
  have ne393 := own_nc ((((((fa207.ext E198).keep K225 (ninS ne208 nin0)).keep K249 (ninS ne208 (ninS ne235 nin0))).ext E271).keep K307 (ninS ne208 (ninS ne263 nin0))).keep K338 (ninS ne208 (ninS ne321 nin0))).lt u363_3
  have ne394 := own_nc ((((((fa209.ext E198).keep K225).keep K249).ext E271).keep K307).keep K338).lt u363_3
  have ne395 := own_nc ((((((fa211.ext E198).keep K225 (ninS ne212 nin0)).keep K249 (ninS ne212 (ninS ne237 nin0))).ext E271).keep K307 (ninS ne212 (ninS ne265 nin0))).keep K338 (ninS ne212 (ninS ne323 nin0))).lt u363_3
  have ne396 := own_nc (fa333.keep K338).lt u363_3
  have ne397 := own_nc (fa336.keep K338 (ninS ne216 (ninS ne325 nin0))).lt u363_3
  have ne398 := own_nc ((((((fa217.ext E198).keep K225 (ninS ne218 nin0)).keep K249 (ninS ne218 (ninS ne240 nin0))).ext E271).keep K307 (ninS ne218 (ninS ne268 nin0))).keep K338 (ninS ne218 (ninS ne326 nin0))).lt u363_3
  have ne399 := own_nc ((((fa244.keep K249).ext E271).keep K307).keep K338).lt u363_3
  have ne400 := own_nc ((((fa247.keep K249 (ninS ne220 (ninS ne242 nin0))).ext E271).keep K307 (ninS ne220 (ninS ne270 nin0))).keep K338 (ninS ne220 (ninS ne328 nin0))).lt u363_3
  have ne401 := own_nc f338_0.lt u363_3
  have ne402 := own_nc ((fe271.keep K307).keep K338).lt u363_3
  have ne403 := own_nc ((fr271.keep K307 (ninS (Ne.symm ne296.2) (ninS (Ne.symm ne298.2) nin0))).keep K338 (ninS (Ne.symm ne296.2) (ninS ne330 nin0))).lt u363_3
  have ne404 := own_nc f338_5.lt u363_3
  have sz_vb_365 : h0.size ≤ vb_365 := Nat.le_trans K347.1 u363_3
  obtain ⟨fsZ, hrZ, hrun, hended, hRE⟩ := X363.leaveW hS271 hk370 (v := some (.ref sa_364)) (fun h => by rw [Bd.returns] at h; cases h)
  have ch405 := ch290.trans hC271
  have ch406 := ch405.trans (CHr.keep K307 (own_aS sf297 (own_aS sf299 all0)) ch405.1)
  have sf407 := own_sfv u307_2 sf299
  have sf408 := Safe.keep K307 (own_aS sf297 (own_aS sf299 all0)) ch405.1 sf407
  have sf409 := Safe.keep K307 (own_aS sf297 (own_aS sf299 all0)) ch405.1 sf297
  have ch410 := ch406.trans (CHr.keep K338 (own_aS sf409 (own_aS sf408 all0)) ch406.1)
  have ch411 := ch410.trans (CHr.keep K363 all0 ch410.1)
  have hCE : CHr Z own_EL s.vm s.heap T363.vm T363.heap := by rw [hh]; exact ch411.trans (CHv.at X363 hZ hEL ch411.1)
  refine ⟨_, _, pre0 _ ?_, hrun, hended, _, _, rfl, ?_, hCE, hRE.1, hRE.2.1, hRE.2.2.1, hRE.2.2.2.mono (by decide) (by decide)⟩
  · show Steps _ _ _ (s₁.setTop (mkF m 0 #[oa r, .unset] [])) _
    refine st1 _ ?_
    refine XS.dup X1.here hx rfl (hb hby d12_3) rfl rfl ?_
    refine st15.trans ?_
    refine XS.aloadN X15.here hx rfl (hb hby d12_7) rfl rfl ?_
    refine st32 _ ?_
    refine st38.trans ?_
    refine st57 _ ?_
    refine st82.trans ?_
    show Steps _ _ _ (T82.setTop (mkF m 19 #[oa r, .unset] [(.ref b1)])) _
    refine XS.aloadN X82.here hx rfl (hb hby d12_19) rfl rfl ?_
    refine st104 _ ?_
    refine st110.trans ?_
    refine XS.aloadN X110.here hx rfl (hb hby d12_26) rfl rfl ?_
    refine st132 _ ?_
    refine st138.trans ?_
    refine st160.trans ?_
    refine XS.astoreN X160.here hx rfl (hb hby d12_36) rfl rfl (l' := #[oa r, oa sa_161]) rfl ?_
    show Steps _ _ _ (T160.setTop (mkF m 37 #[oa r, oa sa_161] [])) _
    refine XS.aloadN X160.here hx rfl (hb hby d12_37) rfl rfl ?_
    refine st197 _ ?_
    refine XS.ifnonnullYes X197.here hx rfl (pc0 := 41) (pc' := 48) rfl (hb hby d12_41) rfl (by decide) (by decide) ?_
    refine st198 _ ?_
    refine XS.dup X198.here hx rfl (hb hby d12_51) rfl rfl ?_
    refine st225.trans ?_
    refine XS.aloadN X225.here hx rfl (hb hby d12_55) rfl rfl ?_
    refine st249.trans ?_
    show Steps _ _ _ (T249.setTop (mkF m 59 #[oa r, oa sa_161] [(.ref b198)])) _
    refine st271 _ ?_
    refine st307.trans ?_
    refine XS.aloadN X307.here hx rfl (hb hby d12_64) rfl rfl ?_
    refine st332 _ ?_
    refine st338.trans ?_
    refine st363.trans ?_
    show Steps _ _ _ (T363.setTop (mkF m 74 #[oa r, oa sa_161] [(.ref sa_364)])) _
    jvm_step X363.here [X363.here.top, hx, (hb hby d12_74), X363.method', Bd.returns, Value.isRef, FieldType.isReference]
    first | (intro acts; rw [hrZ _ acts rfl rfl rfl]) | rw [hrZ _ _ rfl rfl rfl]
    exact Steps.refl _
  · show Q12q Z r sa_s vb_s kb_s kc_s nb_s vs_s u_s sa_h vb_h kb_h kc_h nb_h vs_h u_h sa_p vb_p kb_p kc_p nb_p vs_p u_p sa_q vb_q kb_q kc_q nb_q vs_q u_q cs fm h0 n0 _ T363.heap _
    exact ⟨sa_364, vb_365, kb_366, kc_367, nb_368, vs_369, rfl, N363, K372, (by first | assumption | exact own_b01 _ | decide | omega | exact Or.inl rfl | exact Or.inr (by assumption)), f363_0, f363_1, f363_2, f363_3⟩
theorem d7_8 : decode zc26 8 = .ok (.aload_n 0, 1) := by decide +kernel
theorem d7_9 : decode zc26 9 = .ok (.ldc 7, 2) := by decide +kernel
theorem d7_11 : decode zc26 11 = .ok (.getfield 9, 3) := by decide +kernel
theorem d7_14 : decode zc26 14 = .ok (.putfield 9, 3) := by decide +kernel
theorem d7_17 : decode zc26 17 = .ok (.aload_n 0, 1) := by decide +kernel
theorem d7_18 : decode zc26 18 = .ok (.ldc 7, 2) := by decide +kernel
theorem d7_20 : decode zc26 20 = .ok (.getfield 15, 3) := by decide +kernel
theorem d7_23 : decode zc26 23 = .ok (.putfield 15, 3) := by decide +kernel
theorem d7_26 : decode zc26 26 = .ok (.return_, 1) := by decide +kernel
theorem ef7n0 (m : MethodId) (sa : Addr) (ca : Addr) : entryFrame m #[(.ref sa), (.ref ca), (.int 0), (.int 0), .null] 6 = mkF m 0 #[oa sa, oa ca, oi 0, oi 0, .val .null, .unset] [] := by first | (simp [entryFrame, mkF, argsToLocals, Value.category]; done) | rfl
def Q7n0 (Z : State) (sa : Addr) (ca : Addr) (w1 : Value) (kq : ClassId) (h0 : Heap) (n0 : Nat) (v : Option Value) (h : Heap) (L : List Loc) : Prop := ∃ (vb : Addr) (kb : ClassId) (kc : Int32) (nb : Int32) (vs : List Value), v = none ∧ Fr n0 L ∧ Keep h0 h [sa] ∧ own_enc [] kc nb vs ∧ Exa Z h sa oS ∧ Fld Z h sa oS "coder" "B" (.int kc) ∧ Fld Z h sa oS "value" "[B" (.ref vb) ∧ Arv Z h vb kb .byte nb vs (.int 0)
theorem rm7n0 (l : Launch) (Z : State) (a0 : Array Value) (hw : ∀ d ∈ tables_1, d.before a0 Z = true) (ws : List Jvm.Cond) (sa : Addr) (ca : Addr) (w1 : Value) (kq : ClassId) (h0 : Heap) (n0 : Nat) (Z0 : n0 ≤ h0.size) (Es : Exa Z h0 sa oS) (Sc : Fld Z h0 sa oS "coder" "B" w1) (Sv : Fld Z h0 sa oS "value" "[B" .null) (gs : n0 ≤ sa) (Vc : Arv Z h0 ca kq .char (0 : Int32) [] (.int 0)) :
    MetFree l oM26 (head1 (Jvm.Cond.code oM26 zc26 6 none :: ws) oR43) (fun a U => a = #[(.ref sa), (.ref ca), (.int 0), (.int 0), .null] ∧ Z.Warmed39 U.vm ∧ U.heap = h0 ∧ CHv Z own_EL U.vm h0) (fun _ _ _ _ _ => True) (fun _ U o U' => ∃ v L, o = .returned v ∧ Q7n0 Z sa ca w1 kq h0 n0 v U'.heap L ∧ CHr Z own_EL U.vm U.heap U'.vm U'.heap ∧ ReturnedEndW U o U' L oR43.cells oR43.slots) := by
  refine MetFree.of_bodySF (plainFor_of_name pn3) hisR ?_
  intro p e s m args below meth c s₁ Bd hml0 hP hK
  obtain ⟨rfl, hZ, hh, hCH⟩ := hP
  have hx := Bd.exec
  have hby := Bd.bytes
  have hml : c.maxLocals = 6 := hml0
  have hown : s.vm.findClass oS = some m.cls := findClass_of_methodNamed Bd.named
  have hnm := (name_of_methodNamed Bd.named Bd.method).1
  have X0 : Stand p l e oR43 s m #[(.ref sa), (.ref ca), (.int 0), (.int 0), .null] below meth c s₁ [] 0 0 := Stand.of_body Bd
  have e0 : s₁.heap = h0 := by rw [← hh, Bd.state]; rfl
  have N0 := Fr.nil n0
  have X0 : Stand p l e oR43 (s.setVm s.vm) m #[(.ref sa), (.ref ca), (.int 0), (.int 0), .null] below meth c s₁ [] 0 0 := X0
  have hS0 : s.Since s.vm h0.size := (State.WarmedH.refl s).since _
  have hk0 : h0.size ≤ h0.size := Nat.le_refl _
  have hwS := own_wS hw
  have hEL : EW Z a0 own_EL := own_ew hw
  have ch0 := CHr.refl hCH
  have pre0 := own_pre (p := p) (e := e) (below := below) (s₁ := s₁) (ef7n0 m sa ca)
  have sf0 : Safe Z own_EL s.vm h0 sa := own_safeS hZ.alike Es Sv
  obtain ⟨T1, X1, e1, st1⟩ := initO X0 hx hZ hown (ow hw 20 rfl) (ow hw 21 rfl) (ow hw 22 rfl) e0 (g := (mkF m 1 #[oa sa, oa ca, oi 0, oi 0, .val .null, .unset] [(.ref sa)])) rfl (by rw [hml]; rfl) rfl (hb hby d7_1) (by decide) (W := 0) (Nat.le_of_eq rfl) (by decide)
  obtain ⟨b2, T2, h2, k2, vb2, kb2, X2, e2, E2, hS2, hk2, hZ, hown, fe2, fc2, fv2, fr2, -, -, hC2, -, hne2, st2⟩ := ldcCH X1 hx hZ hown (ow hw 264 rfl) hwS e1 hS0 hk0 hEL (List.mem_of_getElem? (i := 2) rfl) ch0.1 (vs := (own_lb [])) (z := (0 : Int32)) own_t0 (by decide) rfl (g := (mkF m 9 #[oa sa, oa ca, oi 0, oi 0, .val .null, .unset] [(.ref sa)])) rfl (hb hby d7_9) (n := 0) (by decide) (by decide) (by decide) (by decide)
  have Z3 : n0 ≤ h2.size := Nat.le_trans Z0 E2.1
  have K4 : Keep h0 h2 [sa] := (Keep.refl h0 [sa]).ext E2
  have sf6 := CHr.safe hC2 Es.lt sf0
  have ne5 := hne2 sa sf6
  obtain ⟨T7, X7, e7, st7⟩ := getF X2 hx hZ hown (host := "") (Or.inl (ow hw 23 rfl)) Via.refl e2 fv2 (g := (mkF m 11 #[oa sa, oa ca, oi 0, oi 0, .val .null, .unset] [(.ref b2), (.ref sa)])) rfl rfl (hb hby d7_11)
  have fa8 := (Sv.ext E2)
  have fa9 := (Es.ext E2)
  obtain ⟨T10, h10, X10, e10, W10, st10⟩ := putF X7 hx hZ hown (host := "") (Or.inl (ow hw 23 rfl)) Via.refl e7 fa8 fa9 (Or.inr ⟨(ow hw 24 rfl), rfl, hnm⟩) (ow hw 11 rfl) (ty := (.array .byte)) (by decide) rfl rfl (g := (mkF m 14 #[oa sa, oa ca, oi 0, oi 0, .val .null, .unset] [(.ref vb2), (.ref sa)])) rfl rfl (hb hby d7_14)
  have fw10 : Fld Z h10 sa oS "value" "[B" (.ref vb2) := fa8.same W10
  have hk11 := Nat.le_trans hk2 (Nat.le_of_eq W10.size.symm)
  have Z12 : n0 ≤ h10.size := Nat.le_trans Z3 (Nat.le_of_eq W10.size.symm)
  have K13 : Keep h0 h10 [sa] := K4.wr W10 (Or.inl (List.mem_of_getElem? (i := 0) rfl))
  have N10 := Fr.snoc X10 N0 gs
  have ch15 := ch0.trans hC2
  have ch16 := ch15.trans (CHr.wr W10 sf6 ch15.1)
  have fa17 := (fa9.wr W10)
  have sf18 := Safe.wr W10 sf6 ch15.1 sf6
  obtain ⟨b14, T14, h14, k14, vb14, kb14, X14, e14, E14, hS14, hk14, hZ, hown, fe14, fc14, fv14, fr14, -, -, hC14, -, hne14, st14⟩ := ldcCH X10 hx hZ hown (ow hw 264 rfl) hwS e10 hS2 hk11 hEL (List.mem_of_getElem? (i := 2) rfl) ch16.1 (vs := (own_lb [])) (z := (0 : Int32)) own_t0 (by decide) rfl (g := (mkF m 18 #[oa sa, oa ca, oi 0, oi 0, .val .null, .unset] [(.ref sa)])) rfl (hb hby d7_18) (n := 0) (by decide) (by decide) (by decide) (by decide)
  have Z19 : n0 ≤ h14.size := Nat.le_trans Z12 E14.1
  have K20 : Keep h0 h14 [sa] := K13.ext E14
  have sf22 := CHr.safe hC14 fa17.lt sf18
  have ne21 := hne14 sa sf22
  obtain ⟨T23, X23, e23, st23⟩ := getF X14 hx hZ hown (host := "") (Or.inl (ow hw 25 rfl)) Via.refl e14 fc14 (g := (mkF m 20 #[oa sa, oa ca, oi 0, oi 0, .val .null, .unset] [(.ref b14), (.ref sa)])) rfl rfl (hb hby d7_20)
  have fa24 := (((Sc.ext E2).other W10 (Or.inr (slot_ne (Or.inr (ow hw 26 rfl)) (Or.inr (ow hw 24 rfl)) (by decide) (t := .byte) (t' := (.array .byte)) (by decide) (by decide)))).ext E14)
  have fa25 := (fa17.ext E14)
  obtain ⟨T26, h26, X26, e26, W26, st26⟩ := putFN X23 hx hZ hown (ow hw 25 rfl) Via.refl e23 fa24 fa25 (Or.inr ⟨(ow hw 26 rfl), rfl, hnm⟩) (ow hw 11 rfl) (ty := .byte) (v' := (.int 0)) (by decide) rfl (by decide) (g := (mkF m 23 #[oa sa, oa ca, oi 0, oi 0, .val .null, .unset] [(.int 0), (.ref sa)])) rfl rfl (hb hby d7_23)
  have fw26 : Fld Z h26 sa oS "coder" "B" (.int 0) := fa24.same W26
  have hk27 := Nat.le_trans hk14 (Nat.le_of_eq W26.size.symm)
  have Z28 : n0 ≤ h26.size := Nat.le_trans Z19 (Nat.le_of_eq W26.size.symm)
  have K29 : Keep h0 h26 [sa] := K20.wr W26 (Or.inl (List.mem_of_getElem? (i := 0) rfl))
  have N26 := Fr.snoc X26 N10 gs
  obtain ⟨fsZ, hrZ, hrun, hended, hRE⟩ := X26.leaveW hS14 (by rw [e26]; exact hk27) (v := none) (fun _ => rfl)
  have hqe : own_enc [] (0 : Int32) (0 : Int32) (own_lb []) := own_enc0
  have fa30 := (fa25.wr W26)
  have fa31 := ((fw10.ext E14).other W26 (Or.inr (slot_ne (Or.inr (ow hw 24 rfl)) (Or.inr (ow hw 26 rfl)) (by decide) (t := (.array .byte)) (t' := .byte) (by decide) (by decide))))
  have fa32 := (((fr2.other W10 (Ne.symm ne5.2)).ext E14).other W26 (Ne.symm ne5.2))
  have ch33 := ch16.trans hC14
  have ch34 := ch33.trans (CHr.wr W26 sf22 ch33.1)
  have hCE : CHr Z own_EL s.vm s.heap T26.vm T26.heap := by rw [hh, e26]; exact ch34.trans (CHv.at X26 hZ hEL ch34.1)
  refine ⟨_, _, pre0 _ ?_, hrun, hended, _, _, rfl, ?_, hCE, hRE.1, hRE.2.1, hRE.2.2.1, hRE.2.2.2.mono (by decide) (by decide)⟩
  · show Steps _ _ _ (s₁.setTop (mkF m 0 #[oa sa, oa ca, oi 0, oi 0, .val .null, .unset] [])) _
    refine XS.aloadN X0.here hx rfl (hb hby d7_0) rfl rfl ?_
    refine st1 _ ?_
    refine XS.iloadN X1.here hx rfl (hb hby d7_4) rfl  ?_
    refine XS.ifNo X1.here hx rfl (hb hby d7_5) rfl ((if0 _ _).trans (teq (by decide)).2) ?_
    refine XS.aloadN X1.here hx rfl (hb hby d7_8) rfl rfl ?_
    refine st2 _ ?_
    refine st7 _ ?_
    refine st10 _ ?_
    show Steps _ _ _ (T10.setTop (mkF m 17 #[oa sa, oa ca, oi 0, oi 0, .val .null, .unset] [])) _
    refine XS.aloadN X10.here hx rfl (hb hby d7_17) rfl rfl ?_
    refine st14 _ ?_
    refine st23 _ ?_
    refine st26 _ ?_
    show Steps _ _ _ (T26.setTop (mkF m 26 #[oa sa, oa ca, oi 0, oi 0, .val .null, .unset] [])) _
    exact X26.returnOut hx Bd.returns (hb hby d7_26) hrZ
  · show Q7n0 Z sa ca w1 kq h0 n0 _ T26.heap _
    rw [e26]
    exact ⟨vb2, kb2, (0 : Int32), (0 : Int32), (own_lb []), rfl, N26, K29, (by first | assumption | exact own_b01 _ | decide | omega | exact Or.inl rfl | exact Or.inr (by assumption)), fa30, fw26, fa31, fa32⟩
theorem ef6n0 (m : MethodId) (sa : Addr) (ca : Addr) : entryFrame m #[(.ref sa), (.ref ca)] 2 = mkF m 0 #[oa sa, oa ca] [] := by first | (simp [entryFrame, mkF, argsToLocals, Value.category]; done) | rfl
def Q6n0 (Z : State) (sa : Addr) (ca : Addr) (w1 : Value) (kq : ClassId) (h0 : Heap) (n0 : Nat) (v : Option Value) (h : Heap) (L : List Loc) : Prop := ∃ (vb : Addr) (kb : ClassId) (kc : Int32) (nb : Int32) (vs : List Value), v = none ∧ Fr n0 L ∧ Keep h0 h [sa] ∧ own_enc [] kc nb vs ∧ Exa Z h sa oS ∧ Fld Z h sa oS "coder" "B" (.int kc) ∧ Fld Z h sa oS "value" "[B" (.ref vb) ∧ Arv Z h vb kb .byte nb vs (.int 0)
theorem rm6n0 (l : Launch) (Z : State) (a0 : Array Value) (hw : ∀ d ∈ tables_1, d.before a0 Z = true) (ws : List Jvm.Cond) (sa : Addr) (ca : Addr) (w1 : Value) (kq : ClassId) (h0 : Heap) (n0 : Nat) (Z0 : n0 ≤ h0.size) (Es : Exa Z h0 sa oS) (Sc : Fld Z h0 sa oS "coder" "B" w1) (Sv : Fld Z h0 sa oS "value" "[B" .null) (gs : n0 ≤ sa) (Vc : Arv Z h0 ca kq .char (0 : Int32) [] (.int 0)) :
    MetFree l oM27 (head1 (Jvm.Cond.code oM27 zc27 2 none :: ws) oR44) (fun a U => a = #[(.ref sa), (.ref ca)] ∧ Z.Warmed39 U.vm ∧ U.heap = h0 ∧ CHv Z own_EL U.vm h0) (fun _ _ _ _ _ => True) (fun _ U o U' => ∃ v L, o = .returned v ∧ Q6n0 Z sa ca w1 kq h0 n0 v U'.heap L ∧ CHr Z own_EL U.vm U.heap U'.vm U'.heap ∧ ReturnedEndW U o U' L oR44.cells oR44.slots) := by
  refine MetFree.of_bodySF (plainFor_of_name pn3) hisR ?_
  intro p e s m args below meth c s₁ Bd hml0 hP hK
  obtain ⟨rfl, hZ, hh, hCH⟩ := hP
  have hx := Bd.exec
  have hby := Bd.bytes
  have hml : c.maxLocals = 2 := hml0
  have hown : s.vm.findClass oS = some m.cls := findClass_of_methodNamed Bd.named
  have X0 : Stand p l e oR44 s m #[(.ref sa), (.ref ca)] below meth c s₁ [] 0 0 := Stand.of_body Bd
  have e0 : s₁.heap = h0 := by rw [← hh, Bd.state]; rfl
  have N0 := Fr.nil n0
  have X0 : Stand p l e oR44 (s.setVm s.vm) m #[(.ref sa), (.ref ca)] below meth c s₁ [] 0 0 := X0
  have hS0 : s.Since s.vm h0.size := (State.WarmedH.refl s).since _
  have hk0 : h0.size ≤ h0.size := Nat.le_refl _
  have hwS := own_wS hw
  have hEL : EW Z a0 own_EL := own_ew hw
  have ch0 := CHr.refl hCH
  have pre0 := own_pre (p := p) (e := e) (below := below) (s₁ := s₁) (ef6n0 m sa ca)
  obtain ⟨c1, Arc1, -, Sc1, Mc1, -, -⟩ := id Vc
  have pre2 : own_P p e below (s₁.setTop (mkF m 6 #[oa sa, oa ca] [.null, (.int 0), (.int 0), (.ref ca), (.ref sa)])) (s₁.setTop (entryFrame m #[(.ref sa), (.ref ca)] 2)) := fun tZ kZ => pre0 tZ (by
    show Steps _ _ _ (s₁.setTop (mkF m 0 #[oa sa, oa ca] [])) _
    refine XS.aloadN X0.here hx rfl (hb hby d6_0) rfl rfl ?_
    refine XS.aloadN X0.here hx rfl (hb hby d6_1) rfl rfl ?_
    refine XS.iconst X0.here hx rfl (hb hby d6_2) ?_
    refine XS.aloadN X0.here hx rfl (hb hby d6_3) rfl rfl ?_
    show Steps _ _ _ (s₁.setTop (mkF m 4 #[oa sa, oa ca] [(.ref ca), (.int 0), (.ref ca), (.ref sa)])) _
    refine X0.arraylength hx (by rw [e0]; exact Arc1.1) (State.isArrayOf_alike hZ.alike Arc1.2.1) (g := (mkF m 4 #[oa sa, oa ca] [(.ref ca), (.int 0), (.ref ca), (.ref sa)])) rfl rfl (hb hby d6_4) _ ?_
    rw [len_of Sc1 Mc1]
    show Steps _ _ _ (s₁.setTop (mkF m 5 #[oa sa, oa ca] [(.int 0), (.int 0), (.ref ca), (.ref sa)])) _
    refine XS.aconstNull X0.here hx rfl (hb hby d6_5) ?_
    exact kZ)
  obtain ⟨_, _, ⟨T3, L3, k3, n3⟩, -, X3, hS3, hgr3, ⟨Lc3, hQ3, l3, y3, z3, hC3⟩, st3⟩ := X0.specialBackS hx (y := oM26) rfl hown (mvT hZ (ow hw 32 rfl)) (mvT hZ (ow hw 33 rfl)) (mvT hZ (ow hw 34 rfl)) (by decide) (backOfSH (W := 0) (rm7n0 l Z a0 hw [] sa ca w1 kq h0 n0 Z0 Es Sc Sv gs Vc) hZ (ow hw 34 rfl) (ow hw 3 rfl) (by decide) (by decide) hEL ch0.1) (g := (mkF m 6 #[oa sa, oa ca] [.null, (.int 0), (.int 0), (.ref ca), (.ref sa)])) rfl (by rw [hml]; rfl) (Steps.refl _) (a := sa) (argsL := [(.ref ca), (.int 0), (.int 0), .null]) (rest := []) (lenOf pd22 rfl) rfl (Nat.le_of_eq rfl) (hb hby d6_6) (fun _ _ => ⟨rfl, e0, (by decide : 0 + 4 ≤ _), (by decide : 0 + 8 ≤ _)⟩)
  dsimp only [Pt.U, Pt.locs, Pt.cells, Pt.slots] at X3 l3 y3 z3 st3 hQ3 hS3 hgr3 hC3
  subst l3 y3 z3
  obtain ⟨X3, hS3, hZ, hown⟩ := rebS hS0 (by rw [e0]; exact hk0) X3 hS3 hgr3 hZ hown
  obtain ⟨vb_4, kb_5, kc_6, nb_7, vs_8, rfl, N3q, K3, u3_0, f3_0, f3_1, f3_2, f3_3⟩ := hQ3
  have N3 := Fr.app N0 N3q
  have hk9 := Nat.le_trans hk0 K3.1
  have Z10 : n0 ≤ T3.heap.size := Nat.le_trans Z0 K3.1
  have K11 : Keep h0 T3.heap [sa] := (Keep.refl h0 [sa]).trans K3 (allS (P := fun x => x ∈ _ ∨ _) (Or.inl (List.mem_of_getElem? (i := 0) rfl)) all0)
  have hkr3 : T3.heap.size ≤ T3.heap.size := Nat.le_refl _
  obtain ⟨fsZ, hrZ, hrun, hended, hRE⟩ := X3.leaveW hS3 hkr3 (v := none) (fun _ => rfl)
  have ch12 := ch0.trans hC3
  have hCE : CHr Z own_EL s.vm s.heap T3.vm T3.heap := by rw [hh]; exact ch12.trans (CHv.at X3 hZ hEL ch12.1)
  refine ⟨_, _, pre2 _ ?_, hrun, hended, _, _, rfl, ?_, hCE, hRE.1, hRE.2.1, hRE.2.2.1, hRE.2.2.2.mono (by decide) (by decide)⟩
  · show Steps _ _ _ (s₁.setTop (mkF m 6 #[oa sa, oa ca] [.null, (.int 0), (.int 0), (.ref ca), (.ref sa)])) _
    refine st3.trans ?_
    show Steps _ _ _ (T3.setTop (mkF m 9 #[oa sa, oa ca] [])) _
    exact X3.returnOut hx Bd.returns (hb hby d6_9) hrZ
  · show Q6n0 Z sa ca w1 kq h0 n0 _ T3.heap _
    exact ⟨vb_4, kb_5, kc_6, nb_7, vs_8, rfl, N3, K11, (by first | assumption | exact own_b01 _ | decide | omega | exact Or.inl rfl | exact Or.inr (by assumption)), f3_0, f3_1, f3_2, f3_3⟩
theorem pn43 : plainName "com/example/hash4/hash4/canonical/CanonicalUrlToStringPinLaw" = true := by first | (simp [plainName, overriddenIn]; done) | decide +kernel
theorem d34_0 : decode method_3_code 0 = .ok (.iload_n 3, 1) := by decide +kernel
theorem d34_1 : decode method_3_code 1 = .ok (.iload_n 2, 1) := by decide +kernel
theorem d34_2 : decode method_3_code 2 = .ok (.if_icmp .ge 14, 3) := by decide +kernel
theorem d34_5 : decode method_3_code 5 = .ok (.aload_n 0, 1) := by decide +kernel
theorem d34_6 : decode method_3_code 6 = .ok (.iload_n 3, 1) := by decide +kernel
theorem d34_7 : decode method_3_code 7 = .ok (.invokevirtual 36, 3) := by decide +kernel
theorem pd44 : parseMethodDescriptor "(I)C" = some ⟨[.int], some .char⟩ := by decide +kernel
theorem d34_10 : decode method_3_code 10 = .ok (.aload_n 1, 1) := by decide +kernel
theorem d34_11 : decode method_3_code 11 = .ok (.iload_n 3, 1) := by decide +kernel
theorem d34_12 : decode method_3_code 12 = .ok (.caload, 1) := by decide +kernel
theorem d34_13 : decode method_3_code 13 = .ok (.if_icmp .ne 7, 3) := by decide +kernel
theorem d34_16 : decode method_3_code 16 = .ok (.iconst 1, 1) := by decide +kernel
theorem d34_17 : decode method_3_code 17 = .ok (.goto 4, 3) := by decide +kernel
theorem d34_21 : decode method_3_code 21 = .ok (.ireturn, 1) := by decide +kernel
theorem ef34 (m : MethodId) (sa : Addr) (ca : Addr) (n : Int32) (i : Int32) : entryFrame m #[(.ref sa), (.ref ca), (.int n), (.int i)] 4 = mkF m 0 #[oa sa, oa ca, oi n, oi i] [] := by first | (simp [entryFrame, mkF, argsToLocals, Value.category]; done) | rfl
def Q34 (Z : State) (sa : Addr) (ca : Addr) (n : Int32) (i : Int32) (vb : Addr) (kb : ClassId) (kc : Int32) (nb : Int32) (vs : List Value) (us : List Int32) (kq : ClassId) (es : List Value) (cs : Int32) (fm : Value) (h0 : Heap) (n0 : Nat) (v : Option Value) (h : Heap) (L : List Loc) : Prop := v = some (.int 1) ∧ Fr n0 L ∧ h = h0
theorem rm34 (l : Launch) (Z : State) (a0 : Array Value) (hw : ∀ d ∈ tables_1, d.before a0 Z = true) (ws : List Jvm.Cond) (sa : Addr) (ca : Addr) (n : Int32) (i : Int32) (vb : Addr) (kb : ClassId) (kc : Int32) (nb : Int32) (vs : List Value) (us : List Int32) (kq : ClassId) (es : List Value) (cs : Int32) (fm : Value) (h0 : Heap) (n0 : Nat) (Z0 : n0 ≤ h0.size) (G0 : Exa Z h0 sa oS) (G1 : Fld Z h0 sa oS "coder" "B" (.int kc)) (G2 : Fld Z h0 sa oS "value" "[B" (.ref vb)) (G3 : Arv Z h0 vb kb .byte nb vs (.int 0)) (henc : own_enc us kc nb vs) (Vc : Arv Z h0 ca kq .char (11 : Int32) es (.int 0)) (hi0 : ¬ (i < (0 : Int32))) (hi11 : i < (11 : Int32)) (hdj : ¬ (i < n) ∨ ∃ uc : Int32, us[i.toNatClampNeg]? = some uc ∧ own_ch uc ∧ es.getD i.toNatClampNeg (.int 0) = .int uc) (Cs : Sta Z Z.heap oS "COMPACT_STRINGS" "Z" (.int cs)) (hcs : ¬ (cs = (0 : Int32))) (Ox : Old Z n0 h0) (Fm : Sta Z Z.heap "jdk/internal/util/Preconditions" "SIOOBE_FORMATTER" "Ljava/util/function/BiFunction;" fm) (hfm : fm.isRef = true) (Ua : Sta Z Z.heap o6 "$assertionsDisabled" "Z" (.int 1)) (Uh : Sta Z Z.heap o6 "HI_BYTE_SHIFT" "I" (.int 0)) (Ul : Sta Z Z.heap o6 "LO_BYTE_SHIFT" "I" (.int 8)) :
    MetFree l oM52 (head1 (Jvm.Cond.code oM52 method_3_code 4 (some .boolean) :: ws) oR45) (fun a U => a = #[(.ref sa), (.ref ca), (.int n), (.int i)] ∧ Z.Warmed39 U.vm ∧ U.heap = h0) (fun _ _ _ _ _ => True) (fun _ U o U' => ∃ v L, o = .returned v ∧ Q34 Z sa ca n i vb kb kc nb vs us kq es cs fm h0 n0 v U'.heap L ∧ FrameEnd U o U' L oR45.cells oR45.slots) := by
  refine MetFree.of_bodySF (plainFor_of_name pn43) hisR ?_
  intro p e s m args below meth c s₁ Bd hml0 hP hK
  obtain ⟨rfl, hZ, hh⟩ := hP
  have hx := Bd.exec
  have hby := Bd.bytes
  have hml : c.maxLocals = 4 := hml0
  have hown : s.vm.findClass oL = some m.cls := findClass_of_methodNamed Bd.named
  have X0 : Stand p l e oR45 s m #[(.ref sa), (.ref ca), (.int n), (.int i)] below meth c s₁ [] 0 0 := Stand.of_body Bd
  have e0 : s₁.heap = h0 := by rw [← hh, Bd.state]; rfl
  have N0 := Fr.nil n0
  have pre0 := own_pre (p := p) (e := e) (below := below) (s₁ := s₁) (ef34 m sa ca n i)
  have pre1 : own_P p e below (s₁.setTop (mkF m 2 #[oa sa, oa ca, oi n, oi i] [(.int n), (.int i)])) (s₁.setTop (entryFrame m #[(.ref sa), (.ref ca), (.int n), (.int i)] 4)) := fun tZ kZ => pre0 tZ (by
    show Steps _ _ _ (s₁.setTop (mkF m 0 #[oa sa, oa ca, oi n, oi i] [])) _
    refine XS.iloadN X0.here hx rfl (hb hby d34_0) rfl  ?_
    refine XS.iloadN X0.here hx rfl (hb hby d34_1) rfl  ?_
    exact kZ)
  by_cases hc2 : i < n
  ·  -- yes
    obtain ⟨uc, hg, hch, hes⟩ := hdj.resolve_left (fun q => q hc2)
    obtain ⟨cq3, kq3, q3a, q3b, q3c⟩ := isOf hZ e0 G0
    obtain ⟨_, _, ⟨T3, L3, k3, n3⟩, -, X3, ⟨Lc3, hQ3, l3, y3, z3⟩, st3⟩ := X0.virtualBack hx (y := oM15) (z := oM15) hown (mvT hZ (ow hw 185 rfl)) (mvT hZ (ow hw 186 rfl)) (notFace_of_selects (args := #[]) (mvT hZ (ow hw 188 rfl))) (mvT hZ (ow hw 188 rfl)) (mvT hZ (ow hw 187 rfl)) (by decide) (backOf (W := 0) (rm35 l Z a0 hw [] sa i vb kb kc nb vs us uc cs fm h0 n0 Z0 G0 G1 G2 G3 henc (by first | assumption | decide | omega) (by first | assumption | decide | omega) hi0 Cs hcs Ox Fm hfm Ua Uh Ul) hZ (ow hw 189 rfl) (ow hw 3 rfl) (by decide) (by decide)) q3a q3c (g := (mkF m 7 #[oa sa, oa ca, oi n, oi i] [(.int i), (.ref sa)])) rfl (by rw [hml]; rfl) (Steps.refl _) (argsL := [(.int i)]) (rest := []) (lenOf pd44 rfl) rfl (Nat.le_of_eq rfl) (hb hby d34_7) (fun _ _ => ⟨rfl, e0, (by decide : 0 + 0 ≤ _), (by decide : 0 + 0 ≤ _)⟩)
    dsimp only [Pt.U, Pt.locs, Pt.cells, Pt.slots] at X3 l3 y3 z3 st3 hQ3
    subst l3 y3 z3
    obtain ⟨rfl, N3q, e3⟩ := hQ3
    have N3 := Fr.app N0 N3q
    obtain ⟨c4, Arc4, qc4, Sc4, Mc4, Hc4, Gc4⟩ := id Vc
    have hinc4 : ¬ (i < 0 ∨ c4.slots.size ≤ (i).toNatClampNeg) := inb_of Sc4 ⟨hi0, hi11⟩
    have hatc4 : c4.slots[(i).toNatClampNeg]? = some (.int uc) := Hc4.at hinc4 hes
    obtain ⟨fsZ, hrZ, hrun, hended, hW, hsame⟩ := X3.leave (v := some (.int 1)) (fun h => by rw [Bd.returns] at h; cases h)
    refine ⟨_, _, pre1 _ ?_, hrun, hended, _, _, rfl, ?_, ⟨_, rfl⟩, hW, hsame.mono (by decide) (by decide)⟩
    · show Steps _ _ _ (s₁.setTop (mkF m 2 #[oa sa, oa ca, oi n, oi i] [(.int n), (.int i)])) _
      refine XS.icmpNo X0.here hx rfl (hb hby d34_2) rfl (tlt hc2).2.1 ?_
      refine XS.aloadN X0.here hx rfl (hb hby d34_5) rfl rfl ?_
      refine XS.iloadN X0.here hx rfl (hb hby d34_6) rfl  ?_
      refine st3.trans ?_
      refine XS.aloadN X3.here hx rfl (hb hby d34_10) rfl rfl ?_
      refine XS.iloadN X3.here hx rfl (hb hby d34_11) rfl  ?_
      show Steps _ _ _ (T3.setTop (mkF m 12 #[oa sa, oa ca, oi n, oi i] [(.int i), (.ref ca), (.int uc)])) _
      refine X3.caload hx (j := i) (v := (.int uc)) (by rw [e3]; exact Arc4.1) (State.isArrayOf_alike hZ.alike Arc4.2.1) Arc4.2.2 hinc4 hatc4 (g := (mkF m 12 #[oa sa, oa ca, oi n, oi i] [(.int i), (.ref ca), (.int uc)])) rfl rfl (hb hby d34_12) _ ?_
      refine XS.icmpNo X3.here hx rfl (hb hby d34_13) rfl (teq rfl).2 ?_
      refine XS.iconst X3.here hx rfl (hb hby d34_16) ?_
      refine XS.goto X3.here hx rfl (pc0 := 17) (pc' := 21) rfl (hb hby d34_17) (by decide) (by decide) ?_
      show Steps _ _ _ (T3.setTop (mkF m 21 #[oa sa, oa ca, oi n, oi i] [(.int 1)])) _
      exact retN X3 hx (t := .boolean) Bd.returns (by simp) (hb hby d34_21) hrZ
    · show Q34 Z sa ca n i vb kb kc nb vs us kq es cs fm h0 n0 _ T3.heap _
      rw [e3]
      exact ⟨rfl, N3, rfl⟩
  ·  -- no
    obtain ⟨fsZ, hrZ, hrun, hended, hW, hsame⟩ := X0.leave (v := some (.int 1)) (fun h => by rw [Bd.returns] at h; cases h)
    refine ⟨_, _, pre1 _ ?_, hrun, hended, _, _, rfl, ?_, ⟨_, rfl⟩, hW, hsame.mono (by decide) (by decide)⟩
    · show Steps _ _ _ (s₁.setTop (mkF m 2 #[oa sa, oa ca, oi n, oi i] [(.int n), (.int i)])) _
      refine XS.icmpYes X0.here hx rfl (pc0 := 2) (pc' := 16) rfl (hb hby d34_2) rfl (flt hc2).2.1 (by decide) (by decide) ?_
      refine XS.iconst X0.here hx rfl (hb hby d34_16) ?_
      refine XS.goto X0.here hx rfl (pc0 := 17) (pc' := 21) rfl (hb hby d34_17) (by decide) (by decide) ?_
      show Steps _ _ _ (s₁.setTop (mkF m 21 #[oa sa, oa ca, oi n, oi i] [(.int 1)])) _
      exact retN X0 hx (t := .boolean) Bd.returns (by simp) (hb hby d34_21) hrZ
    · show Q34 Z sa ca n i vb kb kc nb vs us kq es cs fm h0 n0 _ s₁.heap _
      rw [e0]
      exact ⟨rfl, N0, rfl⟩
theorem pd45 : parseMethodDescriptor "(C)Ljava/lang/String;" = some ⟨[.char], some (.object oS)⟩ := by decide +kernel
theorem pd46 : parseMethodDescriptor "([C)V" = some ⟨[(.array .char)], none⟩ := by decide +kernel
theorem pd47 : parseMethodDescriptor "(Ljava/lang/String;Ljava/lang/String;ZLjava/lang/String;Ljava/lang/String;)V" = some ⟨[(.object oS), (.object oS), .boolean, (.object oS), (.object oS)], none⟩ := by decide +kernel
theorem pd48 : parseMethodDescriptor "(Ljava/lang/String;[CII)Z" = some ⟨[(.object oS), (.array .char), .int, .int], some .boolean⟩ := by decide +kernel
theorem ef0 (m : MethodId) (p0 : Int32) (p1 : Int32) (p2 : Int32) (p3 : Int32) : entryFrame m #[(.int p0), (.int p1), (.int p2), (.int p3)] maxLocals = mkF m 0 #[oi p0, oi p1, oi p2, oi p3, .unset, .unset, .unset, .unset, .unset, .unset, .unset, .unset, .unset, .unset, .unset, .unset, .unset, .unset, .unset, .unset] [] := by first | (simp [entryFrame, mkF, argsToLocals, Value.category, maxLocals]; done) | rfl
def Q0 (Z : State) (p0 : Int32) (p1 : Int32) (p2 : Int32) (p3 : Int32) (cs : Int32) (fm : Value) (h0 : Heap) (n0 : Nat) (v : Option Value) (h : Heap) (L : List Loc) : Prop := v = some (.int 1) ∧ Fr n0 L
theorem rm0 (l : Launch) (Z : State) (a0 : Array Value) (hw : ∀ d ∈ tables_1, d.before a0 Z = true) (ws : List Jvm.Cond) (p0 : Int32) (p1 : Int32) (p2 : Int32) (p3 : Int32) (cs : Int32) (fm : Value) (h0 : Heap) (n0 : Nat) (Z0 : n0 ≤ h0.size) (Cs : Sta Z Z.heap oS "COMPACT_STRINGS" "Z" (.int cs)) (hcs : ¬ (cs = (0 : Int32))) (Ox : Old Z n0 h0) (Fm : Sta Z Z.heap "jdk/internal/util/Preconditions" "SIOOBE_FORMATTER" "Ljava/util/function/BiFunction;" fm) (hfm : fm.isRef = true) (Ua : Sta Z Z.heap o6 "$assertionsDisabled" "Z" (.int 1)) (Uh : Sta Z Z.heap o6 "HI_BYTE_SHIFT" "I" (.int 0)) (Ul : Sta Z Z.heap o6 "LO_BYTE_SHIFT" "I" (.int 8)) (hch : ∀ p ∈ own_EL, Jvm.Lit.constHeld Z p.1 p.2) (hcw : Jvm.Lit.compactW.before a0 Z = true) :
    MetFree l x (head1 (Jvm.Cond.code x code maxLocals ret :: ws) room_1) (fun a U => a = #[(.int p0), (.int p1), (.int p2), (.int p3)] ∧ Z.Warmed39 U.vm ∧ U.heap = h0 ∧ U = Z) (fun _ _ _ _ _ => True) (fun _ U o U' => ∃ v L, o = .returned v ∧ Q0 Z p0 p1 p2 p3 cs fm h0 n0 v U'.heap L ∧ ReturnedEndW U o U' L room_1.cells room_1.slots) := by
  refine MetFree.of_bodySF (plainFor_of_name pn43) hisR ?_
  intro p e s m args below meth c s₁ Bd hml0 hP hK
  obtain ⟨rfl, hZ, hh, hU⟩ := hP
  have hx := Bd.exec
  have hby := Bd.bytes
  have hml : c.maxLocals = 20 := hml0
  have hown : s.vm.findClass oL = some m.cls := findClass_of_methodNamed Bd.named
  have X0 : Stand p l e room_1 s m #[(.int p0), (.int p1), (.int p2), (.int p3)] below meth c s₁ [] 0 0 := Stand.of_body Bd
  have e0 : s₁.heap = h0 := by rw [← hh, Bd.state]; rfl
  have N0 := Fr.nil n0
  have X0 : Stand p l e room_1 (s.setVm s.vm) m #[(.int p0), (.int p1), (.int p2), (.int p3)] below meth c s₁ [] 0 0 := X0
  have hS0 : s.Since s.vm h0.size := (State.WarmedH.refl s).since _
  have hk0 : h0.size ≤ h0.size := Nat.le_refl _
  have hwS := own_wS hw
  have hEL : EW Z a0 own_EL := own_ew hw
  have hCH : CHv Z own_EL s.vm h0 := by rw [← hh, hU]; exact CHv.start hEL hch hcw (ow hw 15 rfl) (ow hw 11 rfl)
  have ch0 := CHr.refl hCH
  have pre0 := own_pre (p := p) (e := e) (below := below) (s₁ := s₁) (ef0 m p0 p1 p2 p3)
  have pre1 : own_P p e below (s₁.setTop (mkF m 7 #[oi p0, oi p1, oi p2, oi p3, oi ((p0 &&& (65535 : Int32)).toUInt32.toUInt16.toUInt32.toInt32), .unset, .unset, .unset, .unset, .unset, .unset, .unset, .unset, .unset, .unset, .unset, .unset, .unset, .unset, .unset] [])) (s₁.setTop (entryFrame m #[(.int p0), (.int p1), (.int p2), (.int p3)] maxLocals)) := fun tZ kZ => pre0 tZ (by
    show Steps _ _ _ (s₁.setTop (mkF m 0 #[oi p0, oi p1, oi p2, oi p3, .unset, .unset, .unset, .unset, .unset, .unset, .unset, .unset, .unset, .unset, .unset, .unset, .unset, .unset, .unset, .unset] [])) _
    refine XS.iloadN X0.here hx rfl (hb hby at_0) rfl  ?_
    show Steps _ _ _ (s₁.setTop (mkF m 1 #[oi p0, oi p1, oi p2, oi p3, .unset, .unset, .unset, .unset, .unset, .unset, .unset, .unset, .unset, .unset, .unset, .unset, .unset, .unset, .unset, .unset] [(.int p0)])) _
    refine X0.ldcInt hx hown (mvT hZ (ow hw 0 rfl)) (g := (mkF m 1 #[oi p0, oi p1, oi p2, oi p3, .unset, .unset, .unset, .unset, .unset, .unset, .unset, .unset, .unset, .unset, .unset, .unset, .unset, .unset, .unset, .unset] [(.int p0)])) rfl (hb hby at_1) _ ?_
    refine XS.iand X0.here hx rfl (hb hby at_3) rfl ?_
    refine XS.i2c X0.here hx rfl (hb hby at_4) rfl ?_
    refine XS.istore X0.here hx rfl (hb hby at_5) rfl (l' := #[oi p0, oi p1, oi p2, oi p3, oi ((p0 &&& (65535 : Int32)).toUInt32.toUInt16.toUInt32.toInt32), .unset, .unset, .unset, .unset, .unset, .unset, .unset, .unset, .unset, .unset, .unset, .unset, .unset, .unset, .unset]) rfl ?_
    exact kZ)
  obtain ⟨ux4, hux4⟩ : ∃ z, z = ((p0 &&& (65535 : Int32)).toUInt32.toUInt16.toUInt32.toInt32) := ⟨_, rfl⟩
  rw [← hux4] at pre1
  have pre2 : own_P p e below (s₁.setTop (mkF m 14 #[oi p0, oi p1, oi p2, oi p3, oi ux4, oi (((p0.toUInt32 >>> ((16 : Int32) &&& 31).toUInt32).toInt32).toUInt32.toUInt16.toUInt32.toInt32), .unset, .unset, .unset, .unset, .unset, .unset, .unset, .unset, .unset, .unset, .unset, .unset, .unset, .unset] [])) (s₁.setTop (entryFrame m #[(.int p0), (.int p1), (.int p2), (.int p3)] maxLocals)) := fun tZ kZ => pre1 tZ (by
    show Steps _ _ _ (s₁.setTop (mkF m 7 #[oi p0, oi p1, oi p2, oi p3, oi ux4, .unset, .unset, .unset, .unset, .unset, .unset, .unset, .unset, .unset, .unset, .unset, .unset, .unset, .unset, .unset] [])) _
    refine XS.iloadN X0.here hx rfl (hb hby at_7) rfl  ?_
    refine XS.bipush X0.here hx rfl (hb hby at_8) ?_
    refine XS.iushr X0.here hx rfl (hb hby at_10) rfl ?_
    refine XS.i2c X0.here hx rfl (hb hby at_11) rfl ?_
    refine XS.istore X0.here hx rfl (hb hby at_12) rfl (l' := #[oi p0, oi p1, oi p2, oi p3, oi ux4, oi (((p0.toUInt32 >>> ((16 : Int32) &&& 31).toUInt32).toInt32).toUInt32.toUInt16.toUInt32.toInt32), .unset, .unset, .unset, .unset, .unset, .unset, .unset, .unset, .unset, .unset, .unset, .unset, .unset, .unset]) rfl ?_
    exact kZ)
  obtain ⟨ux5, hux5⟩ : ∃ z, z = (((p0.toUInt32 >>> ((16 : Int32) &&& 31).toUInt32).toInt32).toUInt32.toUInt16.toUInt32.toInt32) := ⟨_, rfl⟩
  rw [← hux5] at pre2
  have pre3 : own_P p e below (s₁.setTop (mkF m 21 #[oi p0, oi p1, oi p2, oi p3, oi ux4, oi ux5, oi ((p1 &&& (65535 : Int32)).toUInt32.toUInt16.toUInt32.toInt32), .unset, .unset, .unset, .unset, .unset, .unset, .unset, .unset, .unset, .unset, .unset, .unset, .unset] [])) (s₁.setTop (entryFrame m #[(.int p0), (.int p1), (.int p2), (.int p3)] maxLocals)) := fun tZ kZ => pre2 tZ (by
    show Steps _ _ _ (s₁.setTop (mkF m 14 #[oi p0, oi p1, oi p2, oi p3, oi ux4, oi ux5, .unset, .unset, .unset, .unset, .unset, .unset, .unset, .unset, .unset, .unset, .unset, .unset, .unset, .unset] [])) _
    refine XS.iloadN X0.here hx rfl (hb hby at_14) rfl  ?_
    show Steps _ _ _ (s₁.setTop (mkF m 15 #[oi p0, oi p1, oi p2, oi p3, oi ux4, oi ux5, .unset, .unset, .unset, .unset, .unset, .unset, .unset, .unset, .unset, .unset, .unset, .unset, .unset, .unset] [(.int p1)])) _
    refine X0.ldcInt hx hown (mvT hZ (ow hw 0 rfl)) (g := (mkF m 15 #[oi p0, oi p1, oi p2, oi p3, oi ux4, oi ux5, .unset, .unset, .unset, .unset, .unset, .unset, .unset, .unset, .unset, .unset, .unset, .unset, .unset, .unset] [(.int p1)])) rfl (hb hby at_15) _ ?_
    refine XS.iand X0.here hx rfl (hb hby at_17) rfl ?_
    refine XS.i2c X0.here hx rfl (hb hby at_18) rfl ?_
    refine XS.istore X0.here hx rfl (hb hby at_19) rfl (l' := #[oi p0, oi p1, oi p2, oi p3, oi ux4, oi ux5, oi ((p1 &&& (65535 : Int32)).toUInt32.toUInt16.toUInt32.toInt32), .unset, .unset, .unset, .unset, .unset, .unset, .unset, .unset, .unset, .unset, .unset, .unset, .unset]) rfl ?_
    exact kZ)
  obtain ⟨ux6, hux6⟩ : ∃ z, z = ((p1 &&& (65535 : Int32)).toUInt32.toUInt16.toUInt32.toInt32) := ⟨_, rfl⟩
  rw [← hux6] at pre3
  have pre4 : own_P p e below (s₁.setTop (mkF m 28 #[oi p0, oi p1, oi p2, oi p3, oi ux4, oi ux5, oi ux6, oi (((p1.toUInt32 >>> ((16 : Int32) &&& 31).toUInt32).toInt32).toUInt32.toUInt16.toUInt32.toInt32), .unset, .unset, .unset, .unset, .unset, .unset, .unset, .unset, .unset, .unset, .unset, .unset] [])) (s₁.setTop (entryFrame m #[(.int p0), (.int p1), (.int p2), (.int p3)] maxLocals)) := fun tZ kZ => pre3 tZ (by
    show Steps _ _ _ (s₁.setTop (mkF m 21 #[oi p0, oi p1, oi p2, oi p3, oi ux4, oi ux5, oi ux6, .unset, .unset, .unset, .unset, .unset, .unset, .unset, .unset, .unset, .unset, .unset, .unset, .unset] [])) _
    refine XS.iloadN X0.here hx rfl (hb hby at_21) rfl  ?_
    refine XS.bipush X0.here hx rfl (hb hby at_22) ?_
    refine XS.iushr X0.here hx rfl (hb hby at_24) rfl ?_
    refine XS.i2c X0.here hx rfl (hb hby at_25) rfl ?_
    refine XS.istore X0.here hx rfl (hb hby at_26) rfl (l' := #[oi p0, oi p1, oi p2, oi p3, oi ux4, oi ux5, oi ux6, oi (((p1.toUInt32 >>> ((16 : Int32) &&& 31).toUInt32).toInt32).toUInt32.toUInt16.toUInt32.toInt32), .unset, .unset, .unset, .unset, .unset, .unset, .unset, .unset, .unset, .unset, .unset, .unset]) rfl ?_
    exact kZ)
  obtain ⟨ux7, hux7⟩ : ∃ z, z = (((p1.toUInt32 >>> ((16 : Int32) &&& 31).toUInt32).toInt32).toUInt32.toUInt16.toUInt32.toInt32) := ⟨_, rfl⟩
  rw [← hux7] at pre4
  have pre5 : own_P p e below (s₁.setTop (mkF m 35 #[oi p0, oi p1, oi p2, oi p3, oi ux4, oi ux5, oi ux6, oi ux7, oi ((p2 &&& (65535 : Int32)).toUInt32.toUInt16.toUInt32.toInt32), .unset, .unset, .unset, .unset, .unset, .unset, .unset, .unset, .unset, .unset, .unset] [])) (s₁.setTop (entryFrame m #[(.int p0), (.int p1), (.int p2), (.int p3)] maxLocals)) := fun tZ kZ => pre4 tZ (by
    show Steps _ _ _ (s₁.setTop (mkF m 28 #[oi p0, oi p1, oi p2, oi p3, oi ux4, oi ux5, oi ux6, oi ux7, .unset, .unset, .unset, .unset, .unset, .unset, .unset, .unset, .unset, .unset, .unset, .unset] [])) _
    refine XS.iloadN X0.here hx rfl (hb hby at_28) rfl  ?_
    show Steps _ _ _ (s₁.setTop (mkF m 29 #[oi p0, oi p1, oi p2, oi p3, oi ux4, oi ux5, oi ux6, oi ux7, .unset, .unset, .unset, .unset, .unset, .unset, .unset, .unset, .unset, .unset, .unset, .unset] [(.int p2)])) _
    refine X0.ldcInt hx hown (mvT hZ (ow hw 0 rfl)) (g := (mkF m 29 #[oi p0, oi p1, oi p2, oi p3, oi ux4, oi ux5, oi ux6, oi ux7, .unset, .unset, .unset, .unset, .unset, .unset, .unset, .unset, .unset, .unset, .unset, .unset] [(.int p2)])) rfl (hb hby at_29) _ ?_
    refine XS.iand X0.here hx rfl (hb hby at_31) rfl ?_
    refine XS.i2c X0.here hx rfl (hb hby at_32) rfl ?_
    refine XS.istore X0.here hx rfl (hb hby at_33) rfl (l' := #[oi p0, oi p1, oi p2, oi p3, oi ux4, oi ux5, oi ux6, oi ux7, oi ((p2 &&& (65535 : Int32)).toUInt32.toUInt16.toUInt32.toInt32), .unset, .unset, .unset, .unset, .unset, .unset, .unset, .unset, .unset, .unset, .unset]) rfl ?_
    exact kZ)
  obtain ⟨ux8, hux8⟩ : ∃ z, z = ((p2 &&& (65535 : Int32)).toUInt32.toUInt16.toUInt32.toInt32) := ⟨_, rfl⟩
  rw [← hux8] at pre5
  have pre6 : own_P p e below (s₁.setTop (mkF m 42 #[oi p0, oi p1, oi p2, oi p3, oi ux4, oi ux5, oi ux6, oi ux7, oi ux8, oi (((p2.toUInt32 >>> ((16 : Int32) &&& 31).toUInt32).toInt32).toUInt32.toUInt16.toUInt32.toInt32), .unset, .unset, .unset, .unset, .unset, .unset, .unset, .unset, .unset, .unset] [])) (s₁.setTop (entryFrame m #[(.int p0), (.int p1), (.int p2), (.int p3)] maxLocals)) := fun tZ kZ => pre5 tZ (by
    show Steps _ _ _ (s₁.setTop (mkF m 35 #[oi p0, oi p1, oi p2, oi p3, oi ux4, oi ux5, oi ux6, oi ux7, oi ux8, .unset, .unset, .unset, .unset, .unset, .unset, .unset, .unset, .unset, .unset, .unset] [])) _
    refine XS.iloadN X0.here hx rfl (hb hby at_35) rfl  ?_
    refine XS.bipush X0.here hx rfl (hb hby at_36) ?_
    refine XS.iushr X0.here hx rfl (hb hby at_38) rfl ?_
    refine XS.i2c X0.here hx rfl (hb hby at_39) rfl ?_
    refine XS.istore X0.here hx rfl (hb hby at_40) rfl (l' := #[oi p0, oi p1, oi p2, oi p3, oi ux4, oi ux5, oi ux6, oi ux7, oi ux8, oi (((p2.toUInt32 >>> ((16 : Int32) &&& 31).toUInt32).toInt32).toUInt32.toUInt16.toUInt32.toInt32), .unset, .unset, .unset, .unset, .unset, .unset, .unset, .unset, .unset, .unset]) rfl ?_
    exact kZ)
  obtain ⟨ux9, hux9⟩ : ∃ z, z = (((p2.toUInt32 >>> ((16 : Int32) &&& 31).toUInt32).toInt32).toUInt32.toUInt16.toUInt32.toInt32) := ⟨_, rfl⟩
  rw [← hux9] at pre6
  have pre7 : own_P p e below (s₁.setTop (mkF m 49 #[oi p0, oi p1, oi p2, oi p3, oi ux4, oi ux5, oi ux6, oi ux7, oi ux8, oi ux9, oi ((p3 &&& (65535 : Int32)).toUInt32.toUInt16.toUInt32.toInt32), .unset, .unset, .unset, .unset, .unset, .unset, .unset, .unset, .unset] [])) (s₁.setTop (entryFrame m #[(.int p0), (.int p1), (.int p2), (.int p3)] maxLocals)) := fun tZ kZ => pre6 tZ (by
    show Steps _ _ _ (s₁.setTop (mkF m 42 #[oi p0, oi p1, oi p2, oi p3, oi ux4, oi ux5, oi ux6, oi ux7, oi ux8, oi ux9, .unset, .unset, .unset, .unset, .unset, .unset, .unset, .unset, .unset, .unset] [])) _
    refine XS.iloadN X0.here hx rfl (hb hby at_42) rfl  ?_
    show Steps _ _ _ (s₁.setTop (mkF m 43 #[oi p0, oi p1, oi p2, oi p3, oi ux4, oi ux5, oi ux6, oi ux7, oi ux8, oi ux9, .unset, .unset, .unset, .unset, .unset, .unset, .unset, .unset, .unset, .unset] [(.int p3)])) _
    refine X0.ldcInt hx hown (mvT hZ (ow hw 0 rfl)) (g := (mkF m 43 #[oi p0, oi p1, oi p2, oi p3, oi ux4, oi ux5, oi ux6, oi ux7, oi ux8, oi ux9, .unset, .unset, .unset, .unset, .unset, .unset, .unset, .unset, .unset, .unset] [(.int p3)])) rfl (hb hby at_43) _ ?_
    refine XS.iand X0.here hx rfl (hb hby at_45) rfl ?_
    refine XS.i2c X0.here hx rfl (hb hby at_46) rfl ?_
    refine XS.istore X0.here hx rfl (hb hby at_47) rfl (l' := #[oi p0, oi p1, oi p2, oi p3, oi ux4, oi ux5, oi ux6, oi ux7, oi ux8, oi ux9, oi ((p3 &&& (65535 : Int32)).toUInt32.toUInt16.toUInt32.toInt32), .unset, .unset, .unset, .unset, .unset, .unset, .unset, .unset, .unset]) rfl ?_
    exact kZ)
  obtain ⟨ux10, hux10⟩ : ∃ z, z = ((p3 &&& (65535 : Int32)).toUInt32.toUInt16.toUInt32.toInt32) := ⟨_, rfl⟩
  rw [← hux10] at pre7
  have pre8 : own_P p e below (s₁.setTop (mkF m 57 #[oi p0, oi p1, oi p2, oi p3, oi ux4, oi ux5, oi ux6, oi ux7, oi ux8, oi ux9, oi ux10, oi (((p3.toUInt32 >>> ((16 : Int32) &&& 31).toUInt32).toInt32) &&& (3 : Int32)), .unset, .unset, .unset, .unset, .unset, .unset, .unset, .unset] [])) (s₁.setTop (entryFrame m #[(.int p0), (.int p1), (.int p2), (.int p3)] maxLocals)) := fun tZ kZ => pre7 tZ (by
    show Steps _ _ _ (s₁.setTop (mkF m 49 #[oi p0, oi p1, oi p2, oi p3, oi ux4, oi ux5, oi ux6, oi ux7, oi ux8, oi ux9, oi ux10, .unset, .unset, .unset, .unset, .unset, .unset, .unset, .unset, .unset] [])) _
    refine XS.iloadN X0.here hx rfl (hb hby at_49) rfl  ?_
    refine XS.bipush X0.here hx rfl (hb hby at_50) ?_
    refine XS.iushr X0.here hx rfl (hb hby at_52) rfl ?_
    refine XS.iconst X0.here hx rfl (hb hby at_53) ?_
    refine XS.iand X0.here hx rfl (hb hby at_54) rfl ?_
    refine XS.istore X0.here hx rfl (hb hby at_55) rfl (l' := #[oi p0, oi p1, oi p2, oi p3, oi ux4, oi ux5, oi ux6, oi ux7, oi ux8, oi ux9, oi ux10, oi (((p3.toUInt32 >>> ((16 : Int32) &&& 31).toUInt32).toInt32) &&& (3 : Int32)), .unset, .unset, .unset, .unset, .unset, .unset, .unset, .unset]) rfl ?_
    exact kZ)
  obtain ⟨kk, hkk⟩ : ∃ z, z = (((p3.toUInt32 >>> ((16 : Int32) &&& 31).toUInt32).toInt32) &&& (3 : Int32)) := ⟨_, rfl⟩
  rw [← hkk] at pre8
  have pre9 : own_P p e below (s₁.setTop (mkF m 63 #[oi p0, oi p1, oi p2, oi p3, oi ux4, oi ux5, oi ux6, oi ux7, oi ux8, oi ux9, oi ux10, oi kk, .unset, .unset, .unset, .unset, .unset, .unset, .unset, .unset] [(.int (((p3.toUInt32 >>> ((18 : Int32) &&& 31).toUInt32).toInt32) &&& (1 : Int32)))])) (s₁.setTop (entryFrame m #[(.int p0), (.int p1), (.int p2), (.int p3)] maxLocals)) := fun tZ kZ => pre8 tZ (by
    show Steps _ _ _ (s₁.setTop (mkF m 57 #[oi p0, oi p1, oi p2, oi p3, oi ux4, oi ux5, oi ux6, oi ux7, oi ux8, oi ux9, oi ux10, oi kk, .unset, .unset, .unset, .unset, .unset, .unset, .unset, .unset] [])) _
    refine XS.iloadN X0.here hx rfl (hb hby at_57) rfl  ?_
    refine XS.bipush X0.here hx rfl (hb hby at_58) ?_
    refine XS.iushr X0.here hx rfl (hb hby at_60) rfl ?_
    refine XS.iconst X0.here hx rfl (hb hby at_61) ?_
    refine XS.iand X0.here hx rfl (hb hby at_62) rfl ?_
    exact kZ)
  have pre11 : ∀ tZ, Steps p.tables e below (s₁.setTop (mkF m 71 #[oi p0, oi p1, oi p2, oi p3, oi ux4, oi ux5, oi ux6, oi ux7, oi ux8, oi ux9, oi ux10, oi kk, .unset, .unset, .unset, .unset, .unset, .unset, .unset, .unset] [(.int (own_b (¬ ((((p3.toUInt32 >>> ((18 : Int32) &&& 31).toUInt32).toInt32) &&& (1 : Int32)) = (0 : Int32)))))])) tZ → Steps p.tables e below (s₁.setTop (entryFrame m #[(.int p0), (.int p1), (.int p2), (.int p3)] maxLocals)) tZ := fun tZ kZ => pre9 tZ (by
    by_cases hc10 : (((p3.toUInt32 >>> ((18 : Int32) &&& 31).toUInt32).toInt32) &&& (1 : Int32)) = (0 : Int32)
    ·  -- yes
      show Steps _ _ _ (s₁.setTop (mkF m 63 #[oi p0, oi p1, oi p2, oi p3, oi ux4, oi ux5, oi ux6, oi ux7, oi ux8, oi ux9, oi ux10, oi kk, .unset, .unset, .unset, .unset, .unset, .unset, .unset, .unset] [(.int (((p3.toUInt32 >>> ((18 : Int32) &&& 31).toUInt32).toInt32) &&& (1 : Int32)))])) _
      refine XS.ifYes X0.here hx rfl (pc0 := 63) (pc' := 70) rfl (hb hby at_63) rfl ((if0 _ _).trans (teq hc10).1) (by decide) (by decide) ?_
      show Steps _ _ _ (s₁.setTop (mkF m 70 #[oi p0, oi p1, oi p2, oi p3, oi ux4, oi ux5, oi ux6, oi ux7, oi ux8, oi ux9, oi ux10, oi kk, .unset, .unset, .unset, .unset, .unset, .unset, .unset, .unset] [])) _
      refine XS.iconst X0.here hx rfl (hb hby at_70) ?_
      have ekZ : (own_b (¬ ((((p3.toUInt32 >>> ((18 : Int32) &&& 31).toUInt32).toInt32) &&& (1 : Int32)) = (0 : Int32)))) = (0 : Int32) := by first | (simp only [own_b, eq_true hc10, and_true, true_and, and_false, false_and, or_true, true_or, or_false, false_or, not_true_eq_false, not_false_eq_true, if_true, if_false, reduceIte]; done) | (simp [own_b, hc10]; done)
      rw [ekZ] at kZ
      exact kZ
    ·  -- no
      show Steps _ _ _ (s₁.setTop (mkF m 63 #[oi p0, oi p1, oi p2, oi p3, oi ux4, oi ux5, oi ux6, oi ux7, oi ux8, oi ux9, oi ux10, oi kk, .unset, .unset, .unset, .unset, .unset, .unset, .unset, .unset] [(.int (((p3.toUInt32 >>> ((18 : Int32) &&& 31).toUInt32).toInt32) &&& (1 : Int32)))])) _
      refine XS.ifNo X0.here hx rfl (hb hby at_63) rfl ((if0 _ _).trans (feq hc10).1) ?_
      show Steps _ _ _ (s₁.setTop (mkF m 66 #[oi p0, oi p1, oi p2, oi p3, oi ux4, oi ux5, oi ux6, oi ux7, oi ux8, oi ux9, oi ux10, oi kk, .unset, .unset, .unset, .unset, .unset, .unset, .unset, .unset] [])) _
      refine XS.iconst X0.here hx rfl (hb hby at_66) ?_
      show Steps _ _ _ (s₁.setTop (mkF m 67 #[oi p0, oi p1, oi p2, oi p3, oi ux4, oi ux5, oi ux6, oi ux7, oi ux8, oi ux9, oi ux10, oi kk, .unset, .unset, .unset, .unset, .unset, .unset, .unset, .unset] [(.int 1)])) _
      refine XS.goto X0.here hx rfl (pc0 := 67) (pc' := 71) rfl (hb hby at_67) (by decide) (by decide) ?_
      have ekZ : (own_b (¬ ((((p3.toUInt32 >>> ((18 : Int32) &&& 31).toUInt32).toInt32) &&& (1 : Int32)) = (0 : Int32)))) = (1 : Int32) := by first | (simp only [own_b, eq_false hc10, and_true, true_and, and_false, false_and, or_true, true_or, or_false, false_or, not_true_eq_false, not_false_eq_true, if_true, if_false, reduceIte]; done) | (simp [own_b, hc10]; done)
      rw [ekZ] at kZ
      exact kZ)
  have pre12 : own_P p e below (s₁.setTop (mkF m 73 #[oi p0, oi p1, oi p2, oi p3, oi ux4, oi ux5, oi ux6, oi ux7, oi ux8, oi ux9, oi ux10, oi kk, oi (own_b (¬ ((((p3.toUInt32 >>> ((18 : Int32) &&& 31).toUInt32).toInt32) &&& (1 : Int32)) = (0 : Int32)))), .unset, .unset, .unset, .unset, .unset, .unset, .unset] [])) (s₁.setTop (entryFrame m #[(.int p0), (.int p1), (.int p2), (.int p3)] maxLocals)) := fun tZ kZ => pre11 tZ (by
    show Steps _ _ _ (s₁.setTop (mkF m 71 #[oi p0, oi p1, oi p2, oi p3, oi ux4, oi ux5, oi ux6, oi ux7, oi ux8, oi ux9, oi ux10, oi kk, .unset, .unset, .unset, .unset, .unset, .unset, .unset, .unset] [(.int (own_b (¬ ((((p3.toUInt32 >>> ((18 : Int32) &&& 31).toUInt32).toInt32) &&& (1 : Int32)) = (0 : Int32)))))])) _
    refine XS.istore X0.here hx rfl (hb hby at_71) rfl (l' := #[oi p0, oi p1, oi p2, oi p3, oi ux4, oi ux5, oi ux6, oi ux7, oi ux8, oi ux9, oi ux10, oi kk, oi (own_b (¬ ((((p3.toUInt32 >>> ((18 : Int32) &&& 31).toUInt32).toInt32) &&& (1 : Int32)) = (0 : Int32)))), .unset, .unset, .unset, .unset, .unset, .unset, .unset]) rfl ?_
    exact kZ)
  obtain ⟨bp, hbp⟩ : ∃ z, z = (own_b (¬ ((((p3.toUInt32 >>> ((18 : Int32) &&& 31).toUInt32).toInt32) &&& (1 : Int32)) = (0 : Int32)))) := ⟨_, rfl⟩
  rw [← hbp] at pre12
  have hcx4 : own_ch ux4 := by rw [hux4]; exact own_chc _
  have hcx5 : own_ch ux5 := by rw [hux5]; exact own_chc _
  have hcx6 : own_ch ux6 := by rw [hux6]; exact own_chc _
  have hcx7 : own_ch ux7 := by rw [hux7]; exact own_chc _
  have hcx8 : own_ch ux8 := by rw [hux8]; exact own_chc _
  have hcx9 : own_ch ux9 := by rw [hux9]; exact own_chc _
  have hcx10 : own_ch ux10 := by rw [hux10]; exact own_chc _
  obtain ⟨_, _, ⟨T13, L13, k13, n13⟩, -, X13, ⟨Lc13, hQ13, l13, y13, z13⟩, st13⟩ := Jvm.LawKit.callS X0 hx (y := oM25) hown (mvT hZ (ow hw 1 rfl)) (mvT hZ (ow hw 2 rfl)) (mvT hZ (ow hw 3 rfl)) (mvT hZ (ow hw 4 rfl)) (by decide) (backOf (W := 0) (rm1 l Z a0 hw [] ux4 cs h0 n0 Z0 Cs hcs Ox Ua Uh Ul (by first | assumption | decide | omega)) hZ (ow hw 4 rfl) (ow hw 3 rfl) (by decide) (by decide)) (g := (mkF m 75 #[oi p0, oi p1, oi p2, oi p3, oi ux4, oi ux5, oi ux6, oi ux7, oi ux8, oi ux9, oi ux10, oi kk, oi bp, .unset, .unset, .unset, .unset, .unset, .unset, .unset] [(.int ux4)])) rfl (by rw [hml]; rfl) (argsL := [(.int ux4)]) (rest := []) (lenOf pd45 rfl) rfl (Nat.le_of_eq rfl) (hb hby at_75) (fun _ _ => ⟨rfl, e0, (by decide : 0 + 2 ≤ _), (by decide : 0 + 6 ≤ _)⟩)
  dsimp only [Pt.U, Pt.locs, Pt.cells, Pt.slots] at X13 l13 y13 z13 st13 hQ13
  subst l13 y13 z13
  obtain ⟨sa_14, vb_15, kb_16, kc_17, nb_18, vs_19, rfl, N13q, K13, u13_0, u13_1, u13_2, u13_3, u13_4, f13_0, f13_1, f13_2, f13_3⟩ := hQ13
  have N13 := Fr.app N0 N13q
  have hk20 := Nat.le_trans hk0 K13.1
  have Z21 : n0 ≤ T13.heap.size := Nat.le_trans Z0 K13.1
  obtain ⟨T22, h22, X22, e22, E22, A22, D22, -, st22⟩ := newO X13 hx hZ hown (ow hw 27 rfl) (ow hw 11 rfl) (ow hw 3 rfl) rfl (g := (mkF m 80 #[oi p0, oi p1, oi p2, oi p3, oi ux4, oi ux5, oi ux6, oi ux7, oi ux8, oi ux9, oi ux10, oi kk, oi bp, oa sa_14, .unset, .unset, .unset, .unset, .unset, .unset] [])) rfl (hb hby at_80) (by decide) (by decide)
  obtain ⟨b22, g22⟩ : ∃ z, z = T13.heap.size := ⟨_, rfl⟩
  rw [← g22] at A22 D22 st22
  have ne23 := own_nb f13_0.lt g22
  have ne24 := own_nb f13_3.lt g22
  have gn_b22 : n0 ≤ b22 := Nat.le_trans Z21 (Nat.le_of_eq g22.symm)
  have hk25 := Nat.le_trans hk20 E22.1
  have Z26 : n0 ≤ h22.size := Nat.le_trans Z21 E22.1
  have F_value_b22 : Fld Z h22 b22 oS "value" "[B" .null := D22 (Or.inr (ow hw 24 rfl)) (ty := (.array .byte)) (by decide)
  have F_coder_b22 : Fld Z h22 b22 oS "coder" "B" (.int 0) := D22 (Or.inr (ow hw 26 rfl)) (ty := .byte) (by decide)
  obtain ⟨T27, h27, k27, X27, e27, E27, A27, st27⟩ := newP X22 hx hZ (ow hw 28 rfl) e22 (g := (mkF m 85 #[oi p0, oi p1, oi p2, oi p3, oi ux4, oi ux5, oi ux6, oi ux7, oi ux8, oi ux9, oi ux10, oi kk, oi bp, oa sa_14, .unset, .unset, .unset, .unset, .unset, .unset] [(.int 2), (.ref b22), (.ref b22)])) rfl (hb hby at_85) rfl (by decide) (cap := 2) (by decide) (by decide) (by decide) (by decide)
  obtain ⟨b27, g27⟩ : ∃ z, z = h22.size := ⟨_, rfl⟩
  rw [← g27] at A27 st27
  have fa28 := (f13_0.ext E22)
  have ne29 := own_nb fa28.lt g27
  have fa30 := (f13_3.ext E22)
  have ne31 := own_nb fa30.lt g27
  have ne32 := own_nb A22.lt g27
  have gn_b27 : n0 ≤ b27 := Nat.le_trans Z26 (Nat.le_of_eq g27.symm)
  have hk33 := Nat.le_trans hk25 E27.1
  have Z34 : n0 ≤ h27.size := Nat.le_trans Z26 E27.1
  have V27 : Arv Z h27 b27 k27 .char (2 : Int32) [(.int 0), (.int 0)] (.int 0) := (Arv.new A27 (by decide)).pad (pad_rep [] (.int 0) 2)
  obtain ⟨c35, Arc35, qc35, Sc35, Mc35, Hc35, Gc35⟩ := id V27
  have hinc35 : ¬ ((0 : Int32) < 0 ∨ c35.slots.size ≤ ((0 : Int32)).toNatClampNeg) := inb_of Sc35 ⟨by decide, by decide⟩
  obtain ⟨T36, h36, X36, e36, W36, st36⟩ := stC X27 hx hZ e27 Arc35 (j := (0 : Int32)) hinc35  (g := (mkF m 91 #[oi p0, oi p1, oi p2, oi p3, oi ux4, oi ux5, oi ux6, oi ux7, oi ux8, oi ux9, oi ux10, oi kk, oi bp, oa sa_14, .unset, .unset, .unset, .unset, .unset, .unset] [(.int ux5), (.int 0), (.ref b27), (.ref b27), (.ref b22), (.ref b22)])) rfl rfl (hb hby at_91)
  have V36 : Arv Z h36 b27 k27 .char (2 : Int32) [(.int ux5), (.int 0)] (.int 0) := by have q := Arv.set Arc35 qc35 Sc35 Mc35 Hc35 Gc35 (fits_nar_char _) W36 0 rfl (Nat.le_of_ble_eq_true rfl); rw [(show nar .char ux5 = ux5 from own_i2c hcx5)] at q; exact q
  have hk37 := Nat.le_trans hk33 (Nat.le_of_eq W36.size.symm)
  have Z38 : n0 ≤ h36.size := Nat.le_trans Z34 (Nat.le_of_eq W36.size.symm)
  have N36 := Fr.snoc X36 N13 gn_b27
  obtain ⟨c39, Arc39, qc39, Sc39, Mc39, Hc39, Gc39⟩ := id V36
  have hinc39 : ¬ ((1 : Int32) < 0 ∨ c39.slots.size ≤ ((1 : Int32)).toNatClampNeg) := inb_of Sc39 ⟨by decide, by decide⟩
  obtain ⟨T40, h40, X40, e40, W40, st40⟩ := stC X36 hx hZ e36 Arc39 (j := (1 : Int32)) hinc39  (g := (mkF m 96 #[oi p0, oi p1, oi p2, oi p3, oi ux4, oi ux5, oi ux6, oi ux7, oi ux8, oi ux9, oi ux10, oi kk, oi bp, oa sa_14, .unset, .unset, .unset, .unset, .unset, .unset] [(.int ux6), (.int 1), (.ref b27), (.ref b27), (.ref b22), (.ref b22)])) rfl rfl (hb hby at_96)
  have V40 : Arv Z h40 b27 k27 .char (2 : Int32) [(.int ux5), (.int ux6)] (.int 0) := by have q := Arv.set Arc39 qc39 Sc39 Mc39 Hc39 Gc39 (fits_nar_char _) W40 1 rfl (Nat.le_of_ble_eq_true rfl); rw [(show nar .char ux6 = ux6 from own_i2c hcx6)] at q; exact q
  have hk41 := Nat.le_trans hk37 (Nat.le_of_eq W40.size.symm)
  have Z42 : n0 ≤ h40.size := Nat.le_trans Z38 (Nat.le_of_eq W40.size.symm)
  have N40 := Fr.snoc X40 N36 gn_b27
  have fa43 := (((A22.ext E27).wr W36).wr W40)
  have fa44 := (((F_coder_b22.ext E27).other W36 (Or.inl ne32)).other W40 (Or.inl ne32))
  have fa45 := (((F_value_b22.ext E27).other W36 (Or.inl ne32)).other W40 (Or.inl ne32))
  have fa46 := (((((Ox.keep K13 all0).ext E22).ext E27).wr W36 gn_b27).wr W40 gn_b27)
  obtain ⟨_, _, ⟨T47, L47, k47, n47⟩, -, X47, ⟨Lc47, hQ47, l47, y47, z47⟩, st47⟩ := X40.specialBack hx (y := oM27) rfl hown (mvT hZ (ow hw 29 rfl)) (mvT hZ (ow hw 30 rfl)) (mvT hZ (ow hw 31 rfl)) (by decide) (backOf (W := 1) (rm6n2 l Z a0 hw [] b22 b27 (.int 0) .null k27 ux5 ux6 cs h40 n0 Z42 fa43 fa44 fa45 gn_b22 V40 ne32 Ua Uh Ul (by first | assumption | decide | omega) (by first | assumption | decide | omega) Cs hcs fa46) hZ (ow hw 31 rfl) (ow hw 3 rfl) (by decide) (by decide)) (g := (mkF m 97 #[oi p0, oi p1, oi p2, oi p3, oi ux4, oi ux5, oi ux6, oi ux7, oi ux8, oi ux9, oi ux10, oi kk, oi bp, oa sa_14, .unset, .unset, .unset, .unset, .unset, .unset] [(.ref b27), (.ref b22), (.ref b22)])) rfl (by rw [hml]; rfl) (Steps.refl _) (a := b22) (argsL := [(.ref b27)]) (rest := [(.ref b22)]) (lenOf pd46 rfl) rfl (Nat.le_of_eq rfl) (hb hby at_97) (fun _ _ => ⟨rfl, e40, (by decide : 4 + 2 ≤ _), (by decide : 12 + 6 ≤ _)⟩)
  dsimp only [Pt.U, Pt.locs, Pt.cells, Pt.slots] at X47 l47 y47 z47 st47 hQ47
  subst l47 y47 z47
  obtain ⟨vb_48, kb_49, kc_50, nb_51, vs_52, rfl, N47q, K47, u47_0, u47_1, u47_2, f47_0, f47_1, f47_2, f47_3⟩ := hQ47
  have N47 := Fr.app N40 N47q
  have hk53 := Nat.le_trans hk41 K47.1
  have Z54 : n0 ≤ T47.heap.size := Nat.le_trans Z42 K47.1
  have ne55 := own_nc (((fa28.ext E27).wr W36).wr W40).lt u47_1
  have ne56 := own_nc (((fa30.ext E27).other W36 ne31).other W40 ne31).lt u47_1
  have ne57 := own_nc fa43.lt u47_1
  have ne58 := own_nc V40.lt u47_1
  obtain ⟨T59, h59, X59, e59, E59, A59, D59, -, st59⟩ := newO X47 hx hZ hown (ow hw 27 rfl) (ow hw 11 rfl) (ow hw 3 rfl) rfl (g := (mkF m 102 #[oi p0, oi p1, oi p2, oi p3, oi ux4, oi ux5, oi ux6, oi ux7, oi ux8, oi ux9, oi ux10, oi kk, oi bp, oa sa_14, oa b22, .unset, .unset, .unset, .unset, .unset] [])) rfl (hb hby at_102) (by decide) (by decide)
  obtain ⟨b59, g59⟩ : ∃ z, z = T47.heap.size := ⟨_, rfl⟩
  rw [← g59] at A59 D59 st59
  have fa60 := ((((fa28.ext E27).wr W36).wr W40).keep K47)
  have ne61 := own_nb fa60.lt g59
  have fa62 := ((((fa30.ext E27).other W36 ne31).other W40 ne31).keep K47 (ninS ne24 nin0))
  have ne63 := own_nb fa62.lt g59
  have ne64 := own_nb f47_0.lt g59
  have ne65 := own_nb f47_3.lt g59
  have gn_b59 : n0 ≤ b59 := Nat.le_trans Z54 (Nat.le_of_eq g59.symm)
  have hk66 := Nat.le_trans hk53 E59.1
  have Z67 : n0 ≤ h59.size := Nat.le_trans Z54 E59.1
  have F_value_b59 : Fld Z h59 b59 oS "value" "[B" .null := D59 (Or.inr (ow hw 24 rfl)) (ty := (.array .byte)) (by decide)
  have F_coder_b59 : Fld Z h59 b59 oS "coder" "B" (.int 0) := D59 (Or.inr (ow hw 26 rfl)) (ty := .byte) (by decide)
  obtain ⟨T68, h68, k68, X68, e68, E68, A68, st68⟩ := newP X59 hx hZ (ow hw 28 rfl) e59 (g := (mkF m 107 #[oi p0, oi p1, oi p2, oi p3, oi ux4, oi ux5, oi ux6, oi ux7, oi ux8, oi ux9, oi ux10, oi kk, oi bp, oa sa_14, oa b22, .unset, .unset, .unset, .unset, .unset] [(.int 2), (.ref b59), (.ref b59)])) rfl (hb hby at_107) rfl (by decide) (cap := 2) (by decide) (by decide) (by decide) (by decide)
  obtain ⟨b68, g68⟩ : ∃ z, z = h59.size := ⟨_, rfl⟩
  rw [← g68] at A68 st68
  have fa69 := (fa60.ext E59)
  have ne70 := own_nb fa69.lt g68
  have fa71 := (fa62.ext E59)
  have ne72 := own_nb fa71.lt g68
  have fa73 := (f47_0.ext E59)
  have ne74 := own_nb fa73.lt g68
  have fa75 := (f47_3.ext E59)
  have ne76 := own_nb fa75.lt g68
  have ne77 := own_nb A59.lt g68
  have gn_b68 : n0 ≤ b68 := Nat.le_trans Z67 (Nat.le_of_eq g68.symm)
  have hk78 := Nat.le_trans hk66 E68.1
  have Z79 : n0 ≤ h68.size := Nat.le_trans Z67 E68.1
  have V68 : Arv Z h68 b68 k68 .char (2 : Int32) [(.int 0), (.int 0)] (.int 0) := (Arv.new A68 (by decide)).pad (pad_rep [] (.int 0) 2)
  obtain ⟨c80, Arc80, qc80, Sc80, Mc80, Hc80, Gc80⟩ := id V68
  have hinc80 : ¬ ((0 : Int32) < 0 ∨ c80.slots.size ≤ ((0 : Int32)).toNatClampNeg) := inb_of Sc80 ⟨by decide, by decide⟩
  obtain ⟨T81, h81, X81, e81, W81, st81⟩ := stC X68 hx hZ e68 Arc80 (j := (0 : Int32)) hinc80  (g := (mkF m 113 #[oi p0, oi p1, oi p2, oi p3, oi ux4, oi ux5, oi ux6, oi ux7, oi ux8, oi ux9, oi ux10, oi kk, oi bp, oa sa_14, oa b22, .unset, .unset, .unset, .unset, .unset] [(.int ux7), (.int 0), (.ref b68), (.ref b68), (.ref b59), (.ref b59)])) rfl rfl (hb hby at_113)
  have V81 : Arv Z h81 b68 k68 .char (2 : Int32) [(.int ux7), (.int 0)] (.int 0) := by have q := Arv.set Arc80 qc80 Sc80 Mc80 Hc80 Gc80 (fits_nar_char _) W81 0 rfl (Nat.le_of_ble_eq_true rfl); rw [(show nar .char ux7 = ux7 from own_i2c hcx7)] at q; exact q
  have hk82 := Nat.le_trans hk78 (Nat.le_of_eq W81.size.symm)
  have Z83 : n0 ≤ h81.size := Nat.le_trans Z79 (Nat.le_of_eq W81.size.symm)
  have N81 := Fr.snoc X81 N47 gn_b68
  obtain ⟨c84, Arc84, qc84, Sc84, Mc84, Hc84, Gc84⟩ := id V81
  have hinc84 : ¬ ((1 : Int32) < 0 ∨ c84.slots.size ≤ ((1 : Int32)).toNatClampNeg) := inb_of Sc84 ⟨by decide, by decide⟩
  obtain ⟨T85, h85, X85, e85, W85, st85⟩ := stC X81 hx hZ e81 Arc84 (j := (1 : Int32)) hinc84  (g := (mkF m 118 #[oi p0, oi p1, oi p2, oi p3, oi ux4, oi ux5, oi ux6, oi ux7, oi ux8, oi ux9, oi ux10, oi kk, oi bp, oa sa_14, oa b22, .unset, .unset, .unset, .unset, .unset] [(.int ux8), (.int 1), (.ref b68), (.ref b68), (.ref b59), (.ref b59)])) rfl rfl (hb hby at_118)
  have V85 : Arv Z h85 b68 k68 .char (2 : Int32) [(.int ux7), (.int ux8)] (.int 0) := by have q := Arv.set Arc84 qc84 Sc84 Mc84 Hc84 Gc84 (fits_nar_char _) W85 1 rfl (Nat.le_of_ble_eq_true rfl); rw [(show nar .char ux8 = ux8 from own_i2c hcx8)] at q; exact q
  have hk86 := Nat.le_trans hk82 (Nat.le_of_eq W85.size.symm)
  have Z87 : n0 ≤ h85.size := Nat.le_trans Z83 (Nat.le_of_eq W85.size.symm)
  have N85 := Fr.snoc X85 N81 gn_b68
  have fa88 := (((A59.ext E68).wr W81).wr W85)
  have fa89 := (((F_coder_b59.ext E68).other W81 (Or.inl ne77)).other W85 (Or.inl ne77))
  have fa90 := (((F_value_b59.ext E68).other W81 (Or.inl ne77)).other W85 (Or.inl ne77))
  have fa91 := (((((fa46.keep K47 (allS (P := fun x => n0 ≤ x) gn_b22 all0)).ext E59).ext E68).wr W81 gn_b68).wr W85 gn_b68)
  obtain ⟨_, _, ⟨T92, L92, k92, n92⟩, -, X92, ⟨Lc92, hQ92, l92, y92, z92⟩, st92⟩ := X85.specialBack hx (y := oM27) rfl hown (mvT hZ (ow hw 29 rfl)) (mvT hZ (ow hw 30 rfl)) (mvT hZ (ow hw 31 rfl)) (by decide) (backOf (W := 1) (rm6n2 l Z a0 hw [] b59 b68 (.int 0) .null k68 ux7 ux8 cs h85 n0 Z87 fa88 fa89 fa90 gn_b59 V85 ne77 Ua Uh Ul (by first | assumption | decide | omega) (by first | assumption | decide | omega) Cs hcs fa91) hZ (ow hw 31 rfl) (ow hw 3 rfl) (by decide) (by decide)) (g := (mkF m 119 #[oi p0, oi p1, oi p2, oi p3, oi ux4, oi ux5, oi ux6, oi ux7, oi ux8, oi ux9, oi ux10, oi kk, oi bp, oa sa_14, oa b22, .unset, .unset, .unset, .unset, .unset] [(.ref b68), (.ref b59), (.ref b59)])) rfl (by rw [hml]; rfl) (Steps.refl _) (a := b59) (argsL := [(.ref b68)]) (rest := [(.ref b59)]) (lenOf pd46 rfl) rfl (Nat.le_of_eq rfl) (hb hby at_119) (fun _ _ => ⟨rfl, e85, (by decide : 8 + 2 ≤ _), (by decide : 24 + 6 ≤ _)⟩)
  dsimp only [Pt.U, Pt.locs, Pt.cells, Pt.slots] at X92 l92 y92 z92 st92 hQ92
  subst l92 y92 z92
  obtain ⟨vb_93, kb_94, kc_95, nb_96, vs_97, rfl, N92q, K92, u92_0, u92_1, u92_2, f92_0, f92_1, f92_2, f92_3⟩ := hQ92
  have N92 := Fr.app N85 N92q
  have hk98 := Nat.le_trans hk86 K92.1
  have Z99 : n0 ≤ T92.heap.size := Nat.le_trans Z87 K92.1
  have ne100 := own_nc (((fa69.ext E68).wr W81).wr W85).lt u92_1
  have ne101 := own_nc (((fa71.ext E68).other W81 ne72).other W85 ne72).lt u92_1
  have ne102 := own_nc (((fa73.ext E68).wr W81).wr W85).lt u92_1
  have ne103 := own_nc (((fa75.ext E68).other W81 ne76).other W85 ne76).lt u92_1
  have ne104 := own_nc fa88.lt u92_1
  have ne105 := own_nc V85.lt u92_1
  have fa106 := (fa91.keep K92 (allS (P := fun x => n0 ≤ x) gn_b59 all0))
  have fa107 := ((((fa69.ext E68).wr W81).wr W85).keep K92)
  have fa108 := ((((((((((f13_1.ext E22).ext E27).other W36 (Or.inl ne29)).other W40 (Or.inl ne29)).keep K47 (ninS ne23 nin0)).ext E59).ext E68).other W81 (Or.inl ne70)).other W85 (Or.inl ne70)).keep K92 (ninS ne61 nin0))
  have fa109 := ((((((((((f13_2.ext E22).ext E27).other W36 (Or.inl ne29)).other W40 (Or.inl ne29)).keep K47 (ninS ne23 nin0)).ext E59).ext E68).other W81 (Or.inl ne70)).other W85 (Or.inl ne70)).keep K92 (ninS ne61 nin0))
  have fa110 := ((((fa71.ext E68).other W81 ne72).other W85 ne72).keep K92 (ninS ne63 nin0))
  have fa111 := ((((fa73.ext E68).wr W81).wr W85).keep K92)
  have fa112 := (((((f47_1.ext E59).ext E68).other W81 (Or.inl ne74)).other W85 (Or.inl ne74)).keep K92 (ninS ne64 nin0))
  have fa113 := (((((f47_2.ext E59).ext E68).other W81 (Or.inl ne74)).other W85 (Or.inl ne74)).keep K92 (ninS ne64 nin0))
  have fa114 := ((((fa75.ext E68).other W81 ne76).other W85 ne76).keep K92 (ninS ne65 nin0))
  have ch115 := ch0.trans (CHr.keep K13 all0 ch0.1)
  have ch116 := ch115.trans (CHr.ext E22 ch115.1)
  have ch117 := ch116.trans (CHr.ext E27 ch116.1)
  have sf118 := (Safe.new (Nat.le_of_eq g27.symm) : Safe Z own_EL s.vm _ b27)
  have sf119 := Safe.ext E27 ch116.1 sf118
  have ch120 := ch117.trans (CHr.wr W36 sf119 ch117.1)
  have sf121 := Safe.wr W36 sf119 ch117.1 sf119
  have ch122 := ch120.trans (CHr.wr W40 sf121 ch120.1)
  have sf123 := (Safe.new (Nat.le_of_eq g22.symm) : Safe Z own_EL s.vm _ b22)
  have sf124 := Safe.ext E22 ch115.1 sf123
  have sf125 := Safe.ext E27 ch116.1 sf124
  have sf126 := Safe.wr W36 sf119 ch117.1 sf125
  have sf127 := Safe.wr W40 sf121 ch120.1 sf126
  have ch128 := ch122.trans (CHr.keep K47 (own_aS sf127 all0) ch122.1)
  have ch129 := ch128.trans (CHr.ext E59 ch128.1)
  have ch130 := ch129.trans (CHr.ext E68 ch129.1)
  have sf131 := (Safe.new (Nat.le_of_eq g68.symm) : Safe Z own_EL s.vm _ b68)
  have sf132 := Safe.ext E68 ch129.1 sf131
  have ch133 := ch130.trans (CHr.wr W81 sf132 ch130.1)
  have sf134 := Safe.wr W81 sf132 ch130.1 sf132
  have ch135 := ch133.trans (CHr.wr W85 sf134 ch133.1)
  have sf136 := (Safe.new (Nat.le_of_eq g59.symm) : Safe Z own_EL s.vm _ b59)
  have sf137 := Safe.ext E59 ch128.1 sf136
  have sf138 := Safe.ext E68 ch129.1 sf137
  have sf139 := Safe.wr W81 sf132 ch130.1 sf138
  have sf140 := Safe.wr W85 sf134 ch133.1 sf139
  have ch141 := ch135.trans (CHr.keep K92 (own_aS sf140 all0) ch135.1)
  have pre142 : own_P p e below (T92.setTop (mkF m 124 #[oi p0, oi p1, oi p2, oi p3, oi ux4, oi ux5, oi ux6, oi ux7, oi ux8, oi ux9, oi ux10, oi kk, oi bp, oa sa_14, oa b22, oa b59, .unset, .unset, .unset, .unset] [])) (s₁.setTop (entryFrame m #[(.int p0), (.int p1), (.int p2), (.int p3)] maxLocals)) := fun tZ kZ => pre12 tZ (by
    show Steps _ _ _ (s₁.setTop (mkF m 73 #[oi p0, oi p1, oi p2, oi p3, oi ux4, oi ux5, oi ux6, oi ux7, oi ux8, oi ux9, oi ux10, oi kk, oi bp, .unset, .unset, .unset, .unset, .unset, .unset, .unset] [])) _
    refine XS.iload X0.here hx rfl (hb hby at_73) rfl  ?_
    refine st13 _ ?_
    refine XS.astore X13.here hx rfl (hb hby at_78) rfl rfl (l' := #[oi p0, oi p1, oi p2, oi p3, oi ux4, oi ux5, oi ux6, oi ux7, oi ux8, oi ux9, oi ux10, oi kk, oi bp, oa sa_14, .unset, .unset, .unset, .unset, .unset, .unset]) rfl ?_
    refine st22 _ ?_
    refine XS.dup X22.here hx rfl (hb hby at_83) rfl rfl ?_
    refine XS.iconst X22.here hx rfl (hb hby at_84) ?_
    refine st27 _ ?_
    refine XS.dup X27.here hx rfl (hb hby at_87) rfl rfl ?_
    show Steps _ _ _ (T27.setTop (mkF m 88 #[oi p0, oi p1, oi p2, oi p3, oi ux4, oi ux5, oi ux6, oi ux7, oi ux8, oi ux9, oi ux10, oi kk, oi bp, oa sa_14, .unset, .unset, .unset, .unset, .unset, .unset] [(.ref b27), (.ref b27), (.ref b22), (.ref b22)])) _
    refine XS.iconst X27.here hx rfl (hb hby at_88) ?_
    refine XS.iload X27.here hx rfl (hb hby at_89) rfl  ?_
    refine st36 _ ?_
    refine XS.dup X36.here hx rfl (hb hby at_92) rfl rfl ?_
    refine XS.iconst X36.here hx rfl (hb hby at_93) ?_
    refine XS.iload X36.here hx rfl (hb hby at_94) rfl  ?_
    refine st40 _ ?_
    refine st47.trans ?_
    show Steps _ _ _ (T47.setTop (mkF m 100 #[oi p0, oi p1, oi p2, oi p3, oi ux4, oi ux5, oi ux6, oi ux7, oi ux8, oi ux9, oi ux10, oi kk, oi bp, oa sa_14, .unset, .unset, .unset, .unset, .unset, .unset] [(.ref b22)])) _
    refine XS.astore X47.here hx rfl (hb hby at_100) rfl rfl (l' := #[oi p0, oi p1, oi p2, oi p3, oi ux4, oi ux5, oi ux6, oi ux7, oi ux8, oi ux9, oi ux10, oi kk, oi bp, oa sa_14, oa b22, .unset, .unset, .unset, .unset, .unset]) rfl ?_
    refine st59 _ ?_
    refine XS.dup X59.here hx rfl (hb hby at_105) rfl rfl ?_
    refine XS.iconst X59.here hx rfl (hb hby at_106) ?_
    refine st68 _ ?_
    refine XS.dup X68.here hx rfl (hb hby at_109) rfl rfl ?_
    refine XS.iconst X68.here hx rfl (hb hby at_110) ?_
    refine XS.iload X68.here hx rfl (hb hby at_111) rfl  ?_
    show Steps _ _ _ (T68.setTop (mkF m 113 #[oi p0, oi p1, oi p2, oi p3, oi ux4, oi ux5, oi ux6, oi ux7, oi ux8, oi ux9, oi ux10, oi kk, oi bp, oa sa_14, oa b22, .unset, .unset, .unset, .unset, .unset] [(.int ux7), (.int 0), (.ref b68), (.ref b68), (.ref b59), (.ref b59)])) _
    refine st81 _ ?_
    refine XS.dup X81.here hx rfl (hb hby at_114) rfl rfl ?_
    refine XS.iconst X81.here hx rfl (hb hby at_115) ?_
    refine XS.iload X81.here hx rfl (hb hby at_116) rfl  ?_
    refine st85 _ ?_
    refine st92.trans ?_
    refine XS.astore X92.here hx rfl (hb hby at_122) rfl rfl (l' := #[oi p0, oi p1, oi p2, oi p3, oi ux4, oi ux5, oi ux6, oi ux7, oi ux8, oi ux9, oi ux10, oi kk, oi bp, oa sa_14, oa b22, oa b59, .unset, .unset, .unset, .unset]) rfl ?_
    exact kZ)
  have seg : ∀ (qq : Value) (vm : Vm) (Tl : State) (h0 : Heap) (Ll : List Loc), Stand p l e room_1 (s.setVm vm) m #[(.int p0), (.int p1), (.int p2), (.int p3)] below meth c Tl Ll 24 400 → Z.Warmed39 vm → vm.findClass oL = some m.cls → Tl.heap = h0 → Fr n0 Ll → n0 ≤ h0.size → ∃ (ea : Addr) (ke : ClassId) (T' : State) (h' : Heap) (L' : List Loc), Stand p l e room_1 (s.setVm vm) m #[(.int p0), (.int p1), (.int p2), (.int p3)] below meth c T' L' 25 411 ∧ T'.heap = h' ∧ Fr n0 L' ∧ Keep h0 h' [] ∧ h0.size ≤ ea ∧ n0 ≤ ea ∧ Arv Z h' ea ke .char (11 : Int32) [(.int ux4), (.int 58), (.int 47), (.int 47), (.int ux5), (.int ux6), (.int ux7), (.int ux8), (.int 63), (.int ux9), (.int ux10)] (.int 0) ∧ ∀ tZ, Steps p.tables e below (T'.setTop (mkF m 271 #[oi p0, oi p1, oi p2, oi p3, oi ux4, oi ux5, oi ux6, oi ux7, oi ux8, oi ux9, oi ux10, oi kk, oi bp, oa sa_14, oa b22, oa b59, .val qq, oa ea, .unset, .unset] [])) tZ → Steps p.tables e below (Tl.setTop (mkF m 194 #[oi p0, oi p1, oi p2, oi p3, oi ux4, oi ux5, oi ux6, oi ux7, oi ux8, oi ux9, oi ux10, oi kk, oi bp, oa sa_14, oa b22, oa b59, .val qq, .unset, .unset, .unset] [])) tZ := by
    intro qq vm Tl h0 Ll Xl hZ hown el Nl Zl
    obtain ⟨T143, h143, k143, X143, e143, E143, A143, st143⟩ := newP Xl hx hZ (ow hw 28 rfl) el (g := (mkF m 196 #[oi p0, oi p1, oi p2, oi p3, oi ux4, oi ux5, oi ux6, oi ux7, oi ux8, oi ux9, oi ux10, oi kk, oi bp, oa sa_14, oa b22, oa b59, .val qq, .unset, .unset, .unset] [(.int 11)])) rfl (hb hby at_196) rfl (by decide) (cap := 11) (by decide) (by decide) (by decide) (by decide)
    obtain ⟨b143, g143⟩ : ∃ z, z = h0.size := ⟨_, rfl⟩
    rw [← g143] at A143 st143
    have gn_b143 : n0 ≤ b143 := Nat.le_trans Zl (Nat.le_of_eq g143.symm)
    have sz_b143 : h0.size ≤ b143 := Nat.le_trans (Keep.refl h0 []).1 (Nat.le_of_eq g143.symm)
    have Z144 : n0 ≤ h143.size := Nat.le_trans Zl E143.1
    have K145 : Keep h0 h143 [] := (Keep.refl h0 []).ext E143
    have V143 : Arv Z h143 b143 k143 .char (11 : Int32) [(.int 0), (.int 0), (.int 0), (.int 0), (.int 0), (.int 0), (.int 0), (.int 0), (.int 0), (.int 0), (.int 0)] (.int 0) := (Arv.new A143 (by decide)).pad (pad_rep [] (.int 0) 11)
    obtain ⟨c146, Arc146, qc146, Sc146, Mc146, Hc146, Gc146⟩ := id V143
    have hinc146 : ¬ ((0 : Int32) < 0 ∨ c146.slots.size ≤ ((0 : Int32)).toNatClampNeg) := inb_of Sc146 ⟨by decide, by decide⟩
    obtain ⟨T147, h147, X147, e147, W147, st147⟩ := stC X143 hx hZ e143 Arc146 (j := (0 : Int32)) hinc146  (g := (mkF m 205 #[oi p0, oi p1, oi p2, oi p3, oi ux4, oi ux5, oi ux6, oi ux7, oi ux8, oi ux9, oi ux10, oi kk, oi bp, oa sa_14, oa b22, oa b59, .val qq, oa b143, .unset, .unset] [(.int ux4), (.int 0), (.ref b143)])) rfl rfl (hb hby at_205)
    have V147 : Arv Z h147 b143 k143 .char (11 : Int32) [(.int ux4), (.int 0), (.int 0), (.int 0), (.int 0), (.int 0), (.int 0), (.int 0), (.int 0), (.int 0), (.int 0)] (.int 0) := by have q := Arv.set Arc146 qc146 Sc146 Mc146 Hc146 Gc146 (fits_nar_char _) W147 0 rfl (Nat.le_of_ble_eq_true rfl); rw [(show nar .char ux4 = ux4 from own_i2c hcx4)] at q; exact q
    have Z148 : n0 ≤ h147.size := Nat.le_trans Z144 (Nat.le_of_eq W147.size.symm)
    have K149 : Keep h0 h147 [] := K145.wr W147 (Or.inr sz_b143)
    have N147 := Fr.snoc X147 Nl gn_b143
    obtain ⟨c150, Arc150, qc150, Sc150, Mc150, Hc150, Gc150⟩ := id V147
    have hinc150 : ¬ ((1 : Int32) < 0 ∨ c150.slots.size ≤ ((1 : Int32)).toNatClampNeg) := inb_of Sc150 ⟨by decide, by decide⟩
    obtain ⟨T151, h151, X151, e151, W151, st151⟩ := stC X147 hx hZ e147 Arc150 (j := (1 : Int32)) hinc150  (g := (mkF m 211 #[oi p0, oi p1, oi p2, oi p3, oi ux4, oi ux5, oi ux6, oi ux7, oi ux8, oi ux9, oi ux10, oi kk, oi bp, oa sa_14, oa b22, oa b59, .val qq, oa b143, .unset, .unset] [(.int 58), (.int 1), (.ref b143)])) rfl rfl (hb hby at_211)
    have V151 : Arv Z h151 b143 k143 .char (11 : Int32) [(.int ux4), (.int 58), (.int 0), (.int 0), (.int 0), (.int 0), (.int 0), (.int 0), (.int 0), (.int 0), (.int 0)] (.int 0) := Arv.set Arc150 qc150 Sc150 Mc150 Hc150 Gc150 (fits_nar_char _) W151 1 rfl (Nat.le_of_ble_eq_true rfl)
    have Z152 : n0 ≤ h151.size := Nat.le_trans Z148 (Nat.le_of_eq W151.size.symm)
    have K153 : Keep h0 h151 [] := K149.wr W151 (Or.inr sz_b143)
    have N151 := Fr.snoc X151 N147 gn_b143
    obtain ⟨c154, Arc154, qc154, Sc154, Mc154, Hc154, Gc154⟩ := id V151
    have hinc154 : ¬ ((2 : Int32) < 0 ∨ c154.slots.size ≤ ((2 : Int32)).toNatClampNeg) := inb_of Sc154 ⟨by decide, by decide⟩
    obtain ⟨T155, h155, X155, e155, W155, st155⟩ := stC X151 hx hZ e151 Arc154 (j := (2 : Int32)) hinc154  (g := (mkF m 217 #[oi p0, oi p1, oi p2, oi p3, oi ux4, oi ux5, oi ux6, oi ux7, oi ux8, oi ux9, oi ux10, oi kk, oi bp, oa sa_14, oa b22, oa b59, .val qq, oa b143, .unset, .unset] [(.int 47), (.int 2), (.ref b143)])) rfl rfl (hb hby at_217)
    have V155 : Arv Z h155 b143 k143 .char (11 : Int32) [(.int ux4), (.int 58), (.int 47), (.int 0), (.int 0), (.int 0), (.int 0), (.int 0), (.int 0), (.int 0), (.int 0)] (.int 0) := Arv.set Arc154 qc154 Sc154 Mc154 Hc154 Gc154 (fits_nar_char _) W155 2 rfl (Nat.le_of_ble_eq_true rfl)
    have Z156 : n0 ≤ h155.size := Nat.le_trans Z152 (Nat.le_of_eq W155.size.symm)
    have K157 : Keep h0 h155 [] := K153.wr W155 (Or.inr sz_b143)
    have N155 := Fr.snoc X155 N151 gn_b143
    obtain ⟨c158, Arc158, qc158, Sc158, Mc158, Hc158, Gc158⟩ := id V155
    have hinc158 : ¬ ((3 : Int32) < 0 ∨ c158.slots.size ≤ ((3 : Int32)).toNatClampNeg) := inb_of Sc158 ⟨by decide, by decide⟩
    obtain ⟨T159, h159, X159, e159, W159, st159⟩ := stC X155 hx hZ e155 Arc158 (j := (3 : Int32)) hinc158  (g := (mkF m 223 #[oi p0, oi p1, oi p2, oi p3, oi ux4, oi ux5, oi ux6, oi ux7, oi ux8, oi ux9, oi ux10, oi kk, oi bp, oa sa_14, oa b22, oa b59, .val qq, oa b143, .unset, .unset] [(.int 47), (.int 3), (.ref b143)])) rfl rfl (hb hby at_223)
    have V159 : Arv Z h159 b143 k143 .char (11 : Int32) [(.int ux4), (.int 58), (.int 47), (.int 47), (.int 0), (.int 0), (.int 0), (.int 0), (.int 0), (.int 0), (.int 0)] (.int 0) := Arv.set Arc158 qc158 Sc158 Mc158 Hc158 Gc158 (fits_nar_char _) W159 3 rfl (Nat.le_of_ble_eq_true rfl)
    have Z160 : n0 ≤ h159.size := Nat.le_trans Z156 (Nat.le_of_eq W159.size.symm)
    have K161 : Keep h0 h159 [] := K157.wr W159 (Or.inr sz_b143)
    have N159 := Fr.snoc X159 N155 gn_b143
    obtain ⟨c162, Arc162, qc162, Sc162, Mc162, Hc162, Gc162⟩ := id V159
    have hinc162 : ¬ ((4 : Int32) < 0 ∨ c162.slots.size ≤ ((4 : Int32)).toNatClampNeg) := inb_of Sc162 ⟨by decide, by decide⟩
    obtain ⟨T163, h163, X163, e163, W163, st163⟩ := stC X159 hx hZ e159 Arc162 (j := (4 : Int32)) hinc162  (g := (mkF m 229 #[oi p0, oi p1, oi p2, oi p3, oi ux4, oi ux5, oi ux6, oi ux7, oi ux8, oi ux9, oi ux10, oi kk, oi bp, oa sa_14, oa b22, oa b59, .val qq, oa b143, .unset, .unset] [(.int ux5), (.int 4), (.ref b143)])) rfl rfl (hb hby at_229)
    have V163 : Arv Z h163 b143 k143 .char (11 : Int32) [(.int ux4), (.int 58), (.int 47), (.int 47), (.int ux5), (.int 0), (.int 0), (.int 0), (.int 0), (.int 0), (.int 0)] (.int 0) := by have q := Arv.set Arc162 qc162 Sc162 Mc162 Hc162 Gc162 (fits_nar_char _) W163 4 rfl (Nat.le_of_ble_eq_true rfl); rw [(show nar .char ux5 = ux5 from own_i2c hcx5)] at q; exact q
    have Z164 : n0 ≤ h163.size := Nat.le_trans Z160 (Nat.le_of_eq W163.size.symm)
    have K165 : Keep h0 h163 [] := K161.wr W163 (Or.inr sz_b143)
    have N163 := Fr.snoc X163 N159 gn_b143
    obtain ⟨c166, Arc166, qc166, Sc166, Mc166, Hc166, Gc166⟩ := id V163
    have hinc166 : ¬ ((5 : Int32) < 0 ∨ c166.slots.size ≤ ((5 : Int32)).toNatClampNeg) := inb_of Sc166 ⟨by decide, by decide⟩
    obtain ⟨T167, h167, X167, e167, W167, st167⟩ := stC X163 hx hZ e163 Arc166 (j := (5 : Int32)) hinc166  (g := (mkF m 235 #[oi p0, oi p1, oi p2, oi p3, oi ux4, oi ux5, oi ux6, oi ux7, oi ux8, oi ux9, oi ux10, oi kk, oi bp, oa sa_14, oa b22, oa b59, .val qq, oa b143, .unset, .unset] [(.int ux6), (.int 5), (.ref b143)])) rfl rfl (hb hby at_235)
    have V167 : Arv Z h167 b143 k143 .char (11 : Int32) [(.int ux4), (.int 58), (.int 47), (.int 47), (.int ux5), (.int ux6), (.int 0), (.int 0), (.int 0), (.int 0), (.int 0)] (.int 0) := by have q := Arv.set Arc166 qc166 Sc166 Mc166 Hc166 Gc166 (fits_nar_char _) W167 5 rfl (Nat.le_of_ble_eq_true rfl); rw [(show nar .char ux6 = ux6 from own_i2c hcx6)] at q; exact q
    have Z168 : n0 ≤ h167.size := Nat.le_trans Z164 (Nat.le_of_eq W167.size.symm)
    have K169 : Keep h0 h167 [] := K165.wr W167 (Or.inr sz_b143)
    have N167 := Fr.snoc X167 N163 gn_b143
    obtain ⟨c170, Arc170, qc170, Sc170, Mc170, Hc170, Gc170⟩ := id V167
    have hinc170 : ¬ ((6 : Int32) < 0 ∨ c170.slots.size ≤ ((6 : Int32)).toNatClampNeg) := inb_of Sc170 ⟨by decide, by decide⟩
    obtain ⟨T171, h171, X171, e171, W171, st171⟩ := stC X167 hx hZ e167 Arc170 (j := (6 : Int32)) hinc170  (g := (mkF m 242 #[oi p0, oi p1, oi p2, oi p3, oi ux4, oi ux5, oi ux6, oi ux7, oi ux8, oi ux9, oi ux10, oi kk, oi bp, oa sa_14, oa b22, oa b59, .val qq, oa b143, .unset, .unset] [(.int ux7), (.int 6), (.ref b143)])) rfl rfl (hb hby at_242)
    have V171 : Arv Z h171 b143 k143 .char (11 : Int32) [(.int ux4), (.int 58), (.int 47), (.int 47), (.int ux5), (.int ux6), (.int ux7), (.int 0), (.int 0), (.int 0), (.int 0)] (.int 0) := by have q := Arv.set Arc170 qc170 Sc170 Mc170 Hc170 Gc170 (fits_nar_char _) W171 6 rfl (Nat.le_of_ble_eq_true rfl); rw [(show nar .char ux7 = ux7 from own_i2c hcx7)] at q; exact q
    have Z172 : n0 ≤ h171.size := Nat.le_trans Z168 (Nat.le_of_eq W171.size.symm)
    have K173 : Keep h0 h171 [] := K169.wr W171 (Or.inr sz_b143)
    have N171 := Fr.snoc X171 N167 gn_b143
    obtain ⟨c174, Arc174, qc174, Sc174, Mc174, Hc174, Gc174⟩ := id V171
    have hinc174 : ¬ ((7 : Int32) < 0 ∨ c174.slots.size ≤ ((7 : Int32)).toNatClampNeg) := inb_of Sc174 ⟨by decide, by decide⟩
    obtain ⟨T175, h175, X175, e175, W175, st175⟩ := stC X171 hx hZ e171 Arc174 (j := (7 : Int32)) hinc174  (g := (mkF m 249 #[oi p0, oi p1, oi p2, oi p3, oi ux4, oi ux5, oi ux6, oi ux7, oi ux8, oi ux9, oi ux10, oi kk, oi bp, oa sa_14, oa b22, oa b59, .val qq, oa b143, .unset, .unset] [(.int ux8), (.int 7), (.ref b143)])) rfl rfl (hb hby at_249)
    have V175 : Arv Z h175 b143 k143 .char (11 : Int32) [(.int ux4), (.int 58), (.int 47), (.int 47), (.int ux5), (.int ux6), (.int ux7), (.int ux8), (.int 0), (.int 0), (.int 0)] (.int 0) := by have q := Arv.set Arc174 qc174 Sc174 Mc174 Hc174 Gc174 (fits_nar_char _) W175 7 rfl (Nat.le_of_ble_eq_true rfl); rw [(show nar .char ux8 = ux8 from own_i2c hcx8)] at q; exact q
    have Z176 : n0 ≤ h175.size := Nat.le_trans Z172 (Nat.le_of_eq W175.size.symm)
    have K177 : Keep h0 h175 [] := K173.wr W175 (Or.inr sz_b143)
    have N175 := Fr.snoc X175 N171 gn_b143
    obtain ⟨c178, Arc178, qc178, Sc178, Mc178, Hc178, Gc178⟩ := id V175
    have hinc178 : ¬ ((8 : Int32) < 0 ∨ c178.slots.size ≤ ((8 : Int32)).toNatClampNeg) := inb_of Sc178 ⟨by decide, by decide⟩
    obtain ⟨T179, h179, X179, e179, W179, st179⟩ := stC X175 hx hZ e175 Arc178 (j := (8 : Int32)) hinc178  (g := (mkF m 256 #[oi p0, oi p1, oi p2, oi p3, oi ux4, oi ux5, oi ux6, oi ux7, oi ux8, oi ux9, oi ux10, oi kk, oi bp, oa sa_14, oa b22, oa b59, .val qq, oa b143, .unset, .unset] [(.int 63), (.int 8), (.ref b143)])) rfl rfl (hb hby at_256)
    have V179 : Arv Z h179 b143 k143 .char (11 : Int32) [(.int ux4), (.int 58), (.int 47), (.int 47), (.int ux5), (.int ux6), (.int ux7), (.int ux8), (.int 63), (.int 0), (.int 0)] (.int 0) := Arv.set Arc178 qc178 Sc178 Mc178 Hc178 Gc178 (fits_nar_char _) W179 8 rfl (Nat.le_of_ble_eq_true rfl)
    have Z180 : n0 ≤ h179.size := Nat.le_trans Z176 (Nat.le_of_eq W179.size.symm)
    have K181 : Keep h0 h179 [] := K177.wr W179 (Or.inr sz_b143)
    have N179 := Fr.snoc X179 N175 gn_b143
    obtain ⟨c182, Arc182, qc182, Sc182, Mc182, Hc182, Gc182⟩ := id V179
    have hinc182 : ¬ ((9 : Int32) < 0 ∨ c182.slots.size ≤ ((9 : Int32)).toNatClampNeg) := inb_of Sc182 ⟨by decide, by decide⟩
    obtain ⟨T183, h183, X183, e183, W183, st183⟩ := stC X179 hx hZ e179 Arc182 (j := (9 : Int32)) hinc182  (g := (mkF m 263 #[oi p0, oi p1, oi p2, oi p3, oi ux4, oi ux5, oi ux6, oi ux7, oi ux8, oi ux9, oi ux10, oi kk, oi bp, oa sa_14, oa b22, oa b59, .val qq, oa b143, .unset, .unset] [(.int ux9), (.int 9), (.ref b143)])) rfl rfl (hb hby at_263)
    have V183 : Arv Z h183 b143 k143 .char (11 : Int32) [(.int ux4), (.int 58), (.int 47), (.int 47), (.int ux5), (.int ux6), (.int ux7), (.int ux8), (.int 63), (.int ux9), (.int 0)] (.int 0) := by have q := Arv.set Arc182 qc182 Sc182 Mc182 Hc182 Gc182 (fits_nar_char _) W183 9 rfl (Nat.le_of_ble_eq_true rfl); rw [(show nar .char ux9 = ux9 from own_i2c hcx9)] at q; exact q
    have Z184 : n0 ≤ h183.size := Nat.le_trans Z180 (Nat.le_of_eq W183.size.symm)
    have K185 : Keep h0 h183 [] := K181.wr W183 (Or.inr sz_b143)
    have N183 := Fr.snoc X183 N179 gn_b143
    obtain ⟨c186, Arc186, qc186, Sc186, Mc186, Hc186, Gc186⟩ := id V183
    have hinc186 : ¬ ((10 : Int32) < 0 ∨ c186.slots.size ≤ ((10 : Int32)).toNatClampNeg) := inb_of Sc186 ⟨by decide, by decide⟩
    obtain ⟨T187, h187, X187, e187, W187, st187⟩ := stC X183 hx hZ e183 Arc186 (j := (10 : Int32)) hinc186  (g := (mkF m 270 #[oi p0, oi p1, oi p2, oi p3, oi ux4, oi ux5, oi ux6, oi ux7, oi ux8, oi ux9, oi ux10, oi kk, oi bp, oa sa_14, oa b22, oa b59, .val qq, oa b143, .unset, .unset] [(.int ux10), (.int 10), (.ref b143)])) rfl rfl (hb hby at_270)
    have V187 : Arv Z h187 b143 k143 .char (11 : Int32) [(.int ux4), (.int 58), (.int 47), (.int 47), (.int ux5), (.int ux6), (.int ux7), (.int ux8), (.int 63), (.int ux9), (.int ux10)] (.int 0) := by have q := Arv.set Arc186 qc186 Sc186 Mc186 Hc186 Gc186 (fits_nar_char _) W187 10 rfl (Nat.le_of_ble_eq_true rfl); rw [(show nar .char ux10 = ux10 from own_i2c hcx10)] at q; exact q
    have Z188 : n0 ≤ h187.size := Nat.le_trans Z184 (Nat.le_of_eq W187.size.symm)
    have K189 : Keep h0 h187 [] := K185.wr W187 (Or.inr sz_b143)
    have N187 := Fr.snoc X187 N183 gn_b143
    refine ⟨b143, k143, _, _, _, X187, e187, N187, K189, sz_b143, gn_b143, V187, fun tZ kZ => ?_⟩
    show Steps _ _ _ (Tl.setTop (mkF m 194 #[oi p0, oi p1, oi p2, oi p3, oi ux4, oi ux5, oi ux6, oi ux7, oi ux8, oi ux9, oi ux10, oi kk, oi bp, oa sa_14, oa b22, oa b59, .val qq, .unset, .unset, .unset] [])) _
    refine XS.bipush Xl.here hx rfl (hb hby at_194) ?_
    refine st143 _ ?_
    refine XS.astore X143.here hx rfl (hb hby at_198) rfl rfl (l' := #[oi p0, oi p1, oi p2, oi p3, oi ux4, oi ux5, oi ux6, oi ux7, oi ux8, oi ux9, oi ux10, oi kk, oi bp, oa sa_14, oa b22, oa b59, .val qq, oa b143, .unset, .unset]) rfl ?_
    refine XS.aload X143.here hx rfl (hb hby at_200) rfl rfl ?_
    refine XS.iconst X143.here hx rfl (hb hby at_202) ?_
    refine XS.iload X143.here hx rfl (hb hby at_203) rfl  ?_
    refine st147 _ ?_
    refine XS.aload X147.here hx rfl (hb hby at_206) rfl rfl ?_
    show Steps _ _ _ (T147.setTop (mkF m 208 #[oi p0, oi p1, oi p2, oi p3, oi ux4, oi ux5, oi ux6, oi ux7, oi ux8, oi ux9, oi ux10, oi kk, oi bp, oa sa_14, oa b22, oa b59, .val qq, oa b143, .unset, .unset] [(.ref b143)])) _
    refine XS.iconst X147.here hx rfl (hb hby at_208) ?_
    refine XS.bipush X147.here hx rfl (hb hby at_209) ?_
    refine st151 _ ?_
    refine XS.aload X151.here hx rfl (hb hby at_212) rfl rfl ?_
    refine XS.iconst X151.here hx rfl (hb hby at_214) ?_
    refine XS.bipush X151.here hx rfl (hb hby at_215) ?_
    refine st155 _ ?_
    refine XS.aload X155.here hx rfl (hb hby at_218) rfl rfl ?_
    show Steps _ _ _ (T155.setTop (mkF m 220 #[oi p0, oi p1, oi p2, oi p3, oi ux4, oi ux5, oi ux6, oi ux7, oi ux8, oi ux9, oi ux10, oi kk, oi bp, oa sa_14, oa b22, oa b59, .val qq, oa b143, .unset, .unset] [(.ref b143)])) _
    refine XS.iconst X155.here hx rfl (hb hby at_220) ?_
    refine XS.bipush X155.here hx rfl (hb hby at_221) ?_
    refine st159 _ ?_
    refine XS.aload X159.here hx rfl (hb hby at_224) rfl rfl ?_
    refine XS.iconst X159.here hx rfl (hb hby at_226) ?_
    refine XS.iload X159.here hx rfl (hb hby at_227) rfl  ?_
    refine st163 _ ?_
    refine XS.aload X163.here hx rfl (hb hby at_230) rfl rfl ?_
    show Steps _ _ _ (T163.setTop (mkF m 232 #[oi p0, oi p1, oi p2, oi p3, oi ux4, oi ux5, oi ux6, oi ux7, oi ux8, oi ux9, oi ux10, oi kk, oi bp, oa sa_14, oa b22, oa b59, .val qq, oa b143, .unset, .unset] [(.ref b143)])) _
    refine XS.iconst X163.here hx rfl (hb hby at_232) ?_
    refine XS.iload X163.here hx rfl (hb hby at_233) rfl  ?_
    refine st167 _ ?_
    refine XS.aload X167.here hx rfl (hb hby at_236) rfl rfl ?_
    refine XS.bipush X167.here hx rfl (hb hby at_238) ?_
    refine XS.iload X167.here hx rfl (hb hby at_240) rfl  ?_
    refine st171 _ ?_
    refine XS.aload X171.here hx rfl (hb hby at_243) rfl rfl ?_
    show Steps _ _ _ (T171.setTop (mkF m 245 #[oi p0, oi p1, oi p2, oi p3, oi ux4, oi ux5, oi ux6, oi ux7, oi ux8, oi ux9, oi ux10, oi kk, oi bp, oa sa_14, oa b22, oa b59, .val qq, oa b143, .unset, .unset] [(.ref b143)])) _
    refine XS.bipush X171.here hx rfl (hb hby at_245) ?_
    refine XS.iload X171.here hx rfl (hb hby at_247) rfl  ?_
    refine st175 _ ?_
    refine XS.aload X175.here hx rfl (hb hby at_250) rfl rfl ?_
    refine XS.bipush X175.here hx rfl (hb hby at_252) ?_
    refine XS.bipush X175.here hx rfl (hb hby at_254) ?_
    refine st179 _ ?_
    refine XS.aload X179.here hx rfl (hb hby at_257) rfl rfl ?_
    show Steps _ _ _ (T179.setTop (mkF m 259 #[oi p0, oi p1, oi p2, oi p3, oi ux4, oi ux5, oi ux6, oi ux7, oi ux8, oi ux9, oi ux10, oi kk, oi bp, oa sa_14, oa b22, oa b59, .val qq, oa b143, .unset, .unset] [(.ref b143)])) _
    refine XS.bipush X179.here hx rfl (hb hby at_259) ?_
    refine XS.iload X179.here hx rfl (hb hby at_261) rfl  ?_
    refine st183 _ ?_
    refine XS.aload X183.here hx rfl (hb hby at_264) rfl rfl ?_
    refine XS.bipush X183.here hx rfl (hb hby at_266) ?_
    refine XS.iload X183.here hx rfl (hb hby at_268) rfl  ?_
    refine st187 _ ?_
    exact kZ
  have J : ∃ (Tj : State) (Lj : List Loc) (sr vbj : Addr) (kbj : ClassId) (kcj nbj : Int32) (vsj : List Value) (ea : Addr) (ke : ClassId) (nj : Int32) (usj : List Int32) (qj : Value), Stand p l e room_1 (s.setVm Tj.vm) m #[(.int p0), (.int p1), (.int p2), (.int p3)] below meth c Tj Lj 60 2400 ∧ s.Since Tj.vm Tj.heap.size ∧ Z.Warmed39 Tj.vm ∧ Tj.vm.findClass oL = some m.cls ∧ Fr n0 Lj ∧ n0 ≤ Tj.heap.size ∧ Old Z n0 Tj.heap ∧ Exa Z Tj.heap sr oS ∧ Fld Z Tj.heap sr oS "coder" "B" (.int kcj) ∧ Fld Z Tj.heap sr oS "value" "[B" (.ref vbj) ∧ Arv Z Tj.heap vbj kbj .byte nbj vsj (.int 0) ∧ Arv Z Tj.heap ea ke .char (11 : Int32) [(.int ux4), (.int 58), (.int 47), (.int 47), (.int ux5), (.int ux6), (.int ux7), (.int ux8), (.int 63), (.int ux9), (.int ux10)] (.int 0) ∧ own_enc usj kcj nbj vsj ∧ nj.toInt = usj.length ∧ own_at usj [(.int ux4), (.int 58), (.int 47), (.int 47), (.int ux5), (.int ux6), (.int ux7), (.int ux8), (.int 63), (.int ux9), (.int ux10)] nj ∧ ∀ tZ, Steps p.tables e below (Tj.setTop (mkF m 327 #[oi p0, oi p1, oi p2, oi p3, oi ux4, oi ux5, oi ux6, oi ux7, oi ux8, oi ux9, oi ux10, oi kk, oi bp, oa sa_14, oa b22, oa b59, .val qj, oa ea, oi nj, .unset] [(.ref sr)])) tZ → Steps p.tables e below (s₁.setTop (entryFrame m #[(.int p0), (.int p1), (.int p2), (.int p3)] maxLocals)) tZ := by
    rcases own_4 hkk with rfl | rfl | rfl | rfl
    ·  -- kind 0
      obtain ⟨ea190, ke190, T190, h190, L190, X190, e190, N190, K190, ge190, gn190, V190, st190⟩ := seg .null _ _ _ _ (X92.mono (by decide : 10 ≤ 24) (by decide : 30 ≤ 400)) hZ hown rfl N92 Z99
      have hk191 := Nat.le_trans hk98 K190.1
      have Z192 : n0 ≤ h190.size := Nat.le_trans Z99 K190.1
      obtain ⟨T193, h193, X193, e193, E193, A193, D193, -, st193⟩ := newO X190 hx hZ hown (ow hw 45 rfl) (ow hw 46 rfl) (ow hw 47 rfl) e190 (g := (mkF m 307 #[oi p0, oi p1, oi p2, oi p3, oi ux4, oi ux5, oi ux6, oi ux7, oi ux8, oi ux9, oi ux10, oi 0, oi bp, oa sa_14, oa b22, oa b59, .val .null, oa ea190, oi 8, .unset] [])) rfl (hb hby at_307) (by decide) (by decide)
      obtain ⟨b193, g193⟩ : ∃ z, z = h190.size := ⟨_, rfl⟩
      rw [← g193] at A193 D193 st193
      have fa194 := (fa107.keep K190)
      have ne195 := own_nb fa194.lt g193
      have fa196 := (fa110.keep K190 nin0)
      have ne197 := own_nb fa196.lt g193
      have fa198 := (fa111.keep K190)
      have ne199 := own_nb fa198.lt g193
      have fa200 := (fa114.keep K190 nin0)
      have ne201 := own_nb fa200.lt g193
      have fa202 := (f92_0.keep K190)
      have ne203 := own_nb fa202.lt g193
      have fa204 := (f92_3.keep K190 nin0)
      have ne205 := own_nb fa204.lt g193
      have ne206 := own_nb V190.lt g193
      have gn_b193 : n0 ≤ b193 := Nat.le_trans Z192 (Nat.le_of_eq g193.symm)
      have hk207 := Nat.le_trans hk191 E193.1
      have Z208 : n0 ≤ h193.size := Nat.le_trans Z192 E193.1
      have F_scheme_b193 : Fld Z h193 b193 oU "scheme" "Ljava/lang/String;" .null := D193 (Or.inr (ow hw 53 rfl)) (ty := (.object oS)) (by decide)
      have F_host_b193 : Fld Z h193 b193 oU "host" "Ljava/lang/String;" .null := D193 (Or.inr (ow hw 55 rfl)) (ty := (.object oS)) (by decide)
      have F_hostIsIpv4Address_b193 : Fld Z h193 b193 oU "hostIsIpv4Address" "Z" (.int 0) := D193 (Or.inr (ow hw 57 rfl)) (ty := .boolean) (by decide)
      have F_path_b193 : Fld Z h193 b193 oU "path" "Ljava/lang/String;" .null := D193 (Or.inr (ow hw 59 rfl)) (ty := (.object oS)) (by decide)
      have F_query_b193 : Fld Z h193 b193 oU "query" "Ljava/lang/String;" .null := D193 (Or.inr (ow hw 61 rfl)) (ty := (.object oS)) (by decide)
      obtain ⟨_, _, ⟨T209, L209, k209, n209⟩, -, X209, ⟨Lc209, hQ209, l209, y209, z209⟩, st209⟩ := X193.specialBack hx (y := oM50) rfl hown (mvT hZ (ow hw 48 rfl)) (mvT hZ (ow hw 49 rfl)) (mvT hZ (ow hw 50 rfl)) (by decide) (backOf (W := 1) (rm11n l Z a0 hw [] b193 sa_14 b22 bp b59 .null .null (.int 0) .null .null h193 n0 Z208 A193 F_scheme_b193 F_host_b193 F_hostIsIpv4Address_b193 F_path_b193 F_query_b193 gn_b193) hZ (ow hw 50 rfl) (ow hw 47 rfl) (by decide) (by decide)) (g := (mkF m 321 #[oi p0, oi p1, oi p2, oi p3, oi ux4, oi ux5, oi ux6, oi ux7, oi ux8, oi ux9, oi ux10, oi 0, oi bp, oa sa_14, oa b22, oa b59, .val .null, oa ea190, oi 8, .unset] [.null, (.ref b59), (.int bp), (.ref b22), (.ref sa_14), (.ref b193), (.ref b193)])) rfl (by rw [hml]; rfl) (Steps.refl _) (a := b193) (argsL := [(.ref sa_14), (.ref b22), (.int bp), (.ref b59), .null]) (rest := [(.ref b193)]) (lenOf pd47 rfl) rfl (Nat.le_of_eq rfl) (hb hby at_321) (fun _ _ => ⟨rfl, e193, (by decide : 26 + 0 ≤ _), (by decide : 416 + 0 ≤ _)⟩)
      dsimp only [Pt.U, Pt.locs, Pt.cells, Pt.slots] at X209 l209 y209 z209 st209 hQ209
      subst l209 y209 z209
      obtain ⟨rfl, N209q, K209, f209_0, f209_1, f209_2, f209_3, f209_4⟩ := hQ209
      have N209 := Fr.app N190 N209q
      have hk210 := Nat.le_trans hk207 K209.1
      have Z211 : n0 ≤ T209.heap.size := Nat.le_trans Z208 K209.1
      have pre212 : own_P p e below (T209.setTop (mkF m 324 #[oi p0, oi p1, oi p2, oi p3, oi ux4, oi ux5, oi ux6, oi ux7, oi ux8, oi ux9, oi ux10, oi 0, oi bp, oa sa_14, oa b22, oa b59, .val .null, oa ea190, oi 8, .unset] [(.ref b193)])) (s₁.setTop (entryFrame m #[(.int p0), (.int p1), (.int p2), (.int p3)] maxLocals)) := fun tZ kZ => pre142 tZ (by
        show Steps _ _ _ (T92.setTop (mkF m 124 #[oi p0, oi p1, oi p2, oi p3, oi ux4, oi ux5, oi ux6, oi ux7, oi ux8, oi ux9, oi ux10, oi 0, oi bp, oa sa_14, oa b22, oa b59, .unset, .unset, .unset, .unset] [])) _
        refine XS.iload X92.here hx rfl (hb hby at_124) rfl  ?_
        refine XS.ifNo X92.here hx rfl (hb hby at_126) rfl ((if0 _ _).trans (teq (by decide)).2) ?_
        refine XS.aconstNull X92.here hx rfl (hb hby at_129) ?_
        refine XS.astore X92.here hx rfl (hb hby at_130) rfl rfl (l' := #[oi p0, oi p1, oi p2, oi p3, oi ux4, oi ux5, oi ux6, oi ux7, oi ux8, oi ux9, oi ux10, oi 0, oi bp, oa sa_14, oa b22, oa b59, .val .null, .unset, .unset, .unset]) rfl ?_
        refine XS.goto X92.here hx rfl (pc0 := 132) (pc' := 194) rfl (hb hby at_132) (by decide) (by decide) ?_
        refine st190 _ ?_
        refine XS.iload X190.here hx rfl (hb hby at_271) rfl  ?_
        refine XS.ifNo X190.here hx rfl (hb hby at_273) rfl ((if0 _ _).trans (teq (by decide)).2) ?_
        show Steps _ _ _ (T190.setTop (mkF m 276 #[oi p0, oi p1, oi p2, oi p3, oi ux4, oi ux5, oi ux6, oi ux7, oi ux8, oi ux9, oi ux10, oi 0, oi bp, oa sa_14, oa b22, oa b59, .val .null, oa ea190, .unset, .unset] [])) _
        refine XS.bipush X190.here hx rfl (hb hby at_276) ?_
        refine XS.goto X190.here hx rfl (pc0 := 278) (pc' := 305) rfl (hb hby at_278) (by decide) (by decide) ?_
        refine XS.istore X190.here hx rfl (hb hby at_305) rfl (l' := #[oi p0, oi p1, oi p2, oi p3, oi ux4, oi ux5, oi ux6, oi ux7, oi ux8, oi ux9, oi ux10, oi 0, oi bp, oa sa_14, oa b22, oa b59, .val .null, oa ea190, oi 8, .unset]) rfl ?_
        refine st193 _ ?_
        refine XS.dup X193.here hx rfl (hb hby at_310) rfl rfl ?_
        refine XS.aload X193.here hx rfl (hb hby at_311) rfl rfl ?_
        refine XS.aload X193.here hx rfl (hb hby at_313) rfl rfl ?_
        refine XS.iload X193.here hx rfl (hb hby at_315) rfl  ?_
        show Steps _ _ _ (T193.setTop (mkF m 317 #[oi p0, oi p1, oi p2, oi p3, oi ux4, oi ux5, oi ux6, oi ux7, oi ux8, oi ux9, oi ux10, oi 0, oi bp, oa sa_14, oa b22, oa b59, .val .null, oa ea190, oi 8, .unset] [(.int bp), (.ref b22), (.ref sa_14), (.ref b193), (.ref b193)])) _
        refine XS.aload X193.here hx rfl (hb hby at_317) rfl rfl ?_
        refine XS.aload X193.here hx rfl (hb hby at_319) rfl rfl ?_
        refine st209.trans ?_
        exact kZ)
      have fa213 := ((fa194.ext E193).keep K209)
      have fa214 := (((fa108.keep K190 nin0).ext E193).keep K209 (ninS ne195 nin0))
      have fa215 := (((fa109.keep K190 nin0).ext E193).keep K209 (ninS ne195 nin0))
      have fa216 := ((fa196.ext E193).keep K209 (ninS ne197 nin0))
      have fa217 := ((fa198.ext E193).keep K209)
      have fa218 := (((fa112.keep K190 nin0).ext E193).keep K209 (ninS ne199 nin0))
      have fa219 := (((fa113.keep K190 nin0).ext E193).keep K209 (ninS ne199 nin0))
      have fa220 := ((fa200.ext E193).keep K209 (ninS ne201 nin0))
      have fa221 := ((fa202.ext E193).keep K209)
      have fa222 := (((f92_1.keep K190 nin0).ext E193).keep K209 (ninS ne203 nin0))
      have fa223 := (((f92_2.keep K190 nin0).ext E193).keep K209 (ninS ne203 nin0))
      have fa224 := ((fa204.ext E193).keep K209 (ninS ne205 nin0))
      have fa225 := (((fa106.keep K190 all0).ext E193).keep K209 (allS (P := fun x => n0 ≤ x) gn_b193 all0))
      have ch227 := ch141.trans (CHr.keep K190 all0 ch141.1)
      have ch228 := ch227.trans (CHr.ext E193 ch227.1)
      have sf229 := (Safe.new (Nat.le_of_eq g193.symm) : Safe Z own_EL s.vm _ b193)
      have sf230 := Safe.ext E193 ch227.1 sf229
      have ch231 := ch228.trans (CHr.keep K209 (own_aS sf230 all0) ch228.1)
      obtain ⟨cq226, kq226, q226a, q226b, q226c⟩ := isOf hZ rfl f209_0
      obtain ⟨_, _, ⟨T226, L226, k226, n226⟩, -, X226, hS226, hgr226, ⟨Lc226, hQ226, l226, y226, z226, hC226⟩, st226⟩ := X209.virtualBackS hx (y := oM51) (z := oM51) hown (mvT hZ (ow hw 62 rfl)) (mvT hZ (ow hw 63 rfl)) (notFace_of_selects (args := #[]) (mvT hZ (ow hw 65 rfl))) (mvT hZ (ow hw 65 rfl)) (mvT hZ (ow hw 64 rfl)) (by decide) (backOfSH (W := 0) (rm12n l Z a0 hw [] b193 sa_14 vb_15 kb_16 kc_17 nb_18 vs_19 [ux4] b22 vb_48 kb_49 kc_50 nb_51 vs_52 [ux5, ux6] b59 vb_93 kb_94 kc_95 nb_96 vs_97 [ux7, ux8] cs fm T209.heap n0 Z211 f209_0 f209_1 f209_2 f209_3 f209_4 fa213 fa214 fa215 fa216 fa217 fa218 fa219 fa220 fa221 fa222 fa223 fa224 (by first | assumption | decide | omega) (by first | assumption | decide | omega) (by first | assumption | decide | omega) (by simp) Cs hcs fa225 Fm hfm Ua Uh Ul) hZ (ow hw 66 rfl) (ow hw 47 rfl) (by decide) (by decide) hEL ch231.1) q226a q226c (g := (mkF m 324 #[oi p0, oi p1, oi p2, oi p3, oi ux4, oi ux5, oi ux6, oi ux7, oi ux8, oi ux9, oi ux10, oi 0, oi bp, oa sa_14, oa b22, oa b59, .val .null, oa ea190, oi 8, .unset] [(.ref b193)])) rfl (by rw [hml]; rfl) (Steps.refl _) (argsL := []) (rest := []) (lenOf pd42 rfl) rfl (Nat.le_of_eq rfl) (hb hby at_324) (fun _ _ => ⟨rfl, rfl, (by decide : 26 + 10 ≤ _), (by decide : 416 + 200 ≤ _)⟩)
      dsimp only [Pt.U, Pt.locs, Pt.cells, Pt.slots] at X226 l226 y226 z226 st226 hQ226 hS226 hgr226 hC226
      subst l226 y226 z226
      obtain ⟨X226, hS226, hZ, hown⟩ := rebS hS0 hk210 X226 hS226 hgr226 hZ hown
      obtain ⟨sr_232, vb_233, kb_234, kc_235, nb_236, vs_237, rfl, N226q, K226, u226_0, f226_0, f226_1, f226_2, f226_3⟩ := hQ226
      have N226 := Fr.app N209 N226q
      have hk238 := Nat.le_trans hk210 K226.1
      have Z239 : n0 ≤ T226.heap.size := Nat.le_trans Z211 K226.1
      have hkr226 : T226.heap.size ≤ T226.heap.size := Nat.le_refl _
      have pre240 : own_P p e below (T226.setTop (mkF m 327 #[oi p0, oi p1, oi p2, oi p3, oi ux4, oi ux5, oi ux6, oi ux7, oi ux8, oi ux9, oi ux10, oi 0, oi bp, oa sa_14, oa b22, oa b59, .val .null, oa ea190, oi 8, .unset] [(.ref sr_232)])) (s₁.setTop (entryFrame m #[(.int p0), (.int p1), (.int p2), (.int p3)] maxLocals)) := fun tZ kZ => pre212 tZ (by
        show Steps _ _ _ (T209.setTop (mkF m 324 #[oi p0, oi p1, oi p2, oi p3, oi ux4, oi ux5, oi ux6, oi ux7, oi ux8, oi ux9, oi ux10, oi 0, oi bp, oa sa_14, oa b22, oa b59, .val .null, oa ea190, oi 8, .unset] [(.ref b193)])) _
        refine st226.trans ?_
        exact kZ)
      have hq241 : own_enc [ux4, 58, 47, 47, ux5, ux6, ux7, ux8] kc_235 nb_236 vs_237 := u226_0
      have fa242 := (fa225.keep K226 all0)
      have fa243 := (((V190.ext E193).keep K209 (ninS ne206 nin0)).keep K226 nin0)
      exact ⟨_, _, sr_232, vb_233, kb_234, kc_235, nb_236, vs_237, ea190, ke190, (8 : Int32), [ux4, 58, 47, 47, ux5, ux6, ux7, ux8], .null, X226.mono (by decide : 36 ≤ 60) (by decide : 616 ≤ 2400), hS226, hZ, hown, N226, Z239, fa242, f226_0, f226_1, f226_2, f226_3, fa243, hq241, rfl, own_atP (ts := [(.int 63), (.int ux9), (.int ux10)]) hq241.1 rfl, pre240⟩
    ·  -- kind 1
      obtain ⟨T244, h244, X244, e244, E244, A244, D244, -, st244⟩ := newO X92 hx hZ hown (ow hw 27 rfl) (ow hw 11 rfl) (ow hw 3 rfl) rfl (g := (mkF m 141 #[oi p0, oi p1, oi p2, oi p3, oi ux4, oi ux5, oi ux6, oi ux7, oi ux8, oi ux9, oi ux10, oi 1, oi bp, oa sa_14, oa b22, oa b59, .unset, .unset, .unset, .unset] [])) rfl (hb hby at_141) (by decide) (by decide)
      obtain ⟨b244, g244⟩ : ∃ z, z = T92.heap.size := ⟨_, rfl⟩
      rw [← g244] at A244 D244 st244
      have ne245 := own_nb fa107.lt g244
      have ne246 := own_nb fa110.lt g244
      have ne247 := own_nb fa111.lt g244
      have ne248 := own_nb fa114.lt g244
      have ne249 := own_nb f92_0.lt g244
      have ne250 := own_nb f92_3.lt g244
      have gn_b244 : n0 ≤ b244 := Nat.le_trans Z99 (Nat.le_of_eq g244.symm)
      have hk251 := Nat.le_trans hk98 E244.1
      have Z252 : n0 ≤ h244.size := Nat.le_trans Z99 E244.1
      have F_value_b244 : Fld Z h244 b244 oS "value" "[B" .null := D244 (Or.inr (ow hw 24 rfl)) (ty := (.array .byte)) (by decide)
      have F_coder_b244 : Fld Z h244 b244 oS "coder" "B" (.int 0) := D244 (Or.inr (ow hw 26 rfl)) (ty := .byte) (by decide)
      obtain ⟨T253, h253, k253, X253, e253, E253, A253, st253⟩ := newP X244 hx hZ (ow hw 28 rfl) e244 (g := (mkF m 146 #[oi p0, oi p1, oi p2, oi p3, oi ux4, oi ux5, oi ux6, oi ux7, oi ux8, oi ux9, oi ux10, oi 1, oi bp, oa sa_14, oa b22, oa b59, .unset, .unset, .unset, .unset] [(.int 0), (.ref b244), (.ref b244)])) rfl (hb hby at_146) rfl (by decide) (cap := 0) (by decide) (by decide) (by decide) (by decide)
      obtain ⟨b253, g253⟩ : ∃ z, z = h244.size := ⟨_, rfl⟩
      rw [← g253] at A253 st253
      have fa254 := (fa107.ext E244)
      have ne255 := own_nb fa254.lt g253
      have fa256 := (fa110.ext E244)
      have ne257 := own_nb fa256.lt g253
      have fa258 := (fa111.ext E244)
      have ne259 := own_nb fa258.lt g253
      have fa260 := (fa114.ext E244)
      have ne261 := own_nb fa260.lt g253
      have fa262 := (f92_0.ext E244)
      have ne263 := own_nb fa262.lt g253
      have fa264 := (f92_3.ext E244)
      have ne265 := own_nb fa264.lt g253
      have ne266 := own_nb A244.lt g253
      have gn_b253 : n0 ≤ b253 := Nat.le_trans Z252 (Nat.le_of_eq g253.symm)
      have hk267 := Nat.le_trans hk251 E253.1
      have Z268 : n0 ≤ h253.size := Nat.le_trans Z252 E253.1
      have V253 : Arv Z h253 b253 k253 .char (0 : Int32) [] (.int 0) := Arv.new A253 (by decide)
      have pre269 : own_P p e below (T253.setTop (mkF m 148 #[oi p0, oi p1, oi p2, oi p3, oi ux4, oi ux5, oi ux6, oi ux7, oi ux8, oi ux9, oi ux10, oi 1, oi bp, oa sa_14, oa b22, oa b59, .unset, .unset, .unset, .unset] [(.ref b253), (.ref b244), (.ref b244)])) (s₁.setTop (entryFrame m #[(.int p0), (.int p1), (.int p2), (.int p3)] maxLocals)) := fun tZ kZ => pre142 tZ (by
        show Steps _ _ _ (T92.setTop (mkF m 124 #[oi p0, oi p1, oi p2, oi p3, oi ux4, oi ux5, oi ux6, oi ux7, oi ux8, oi ux9, oi ux10, oi 1, oi bp, oa sa_14, oa b22, oa b59, .unset, .unset, .unset, .unset] [])) _
        refine XS.iload X92.here hx rfl (hb hby at_124) rfl  ?_
        refine XS.ifYes X92.here hx rfl (pc0 := 126) (pc' := 135) rfl (hb hby at_126) rfl ((if0 _ _).trans (feq (by decide)).2) (by decide) (by decide) ?_
        refine XS.iload X92.here hx rfl (hb hby at_135) rfl  ?_
        refine XS.iconst X92.here hx rfl (hb hby at_137) ?_
        refine XS.icmpNo X92.here hx rfl (hb hby at_138) rfl (teq (by decide)).2 ?_
        refine st244 _ ?_
        refine XS.dup X244.here hx rfl (hb hby at_144) rfl rfl ?_
        refine XS.iconst X244.here hx rfl (hb hby at_145) ?_
        show Steps _ _ _ (T244.setTop (mkF m 146 #[oi p0, oi p1, oi p2, oi p3, oi ux4, oi ux5, oi ux6, oi ux7, oi ux8, oi ux9, oi ux10, oi 1, oi bp, oa sa_14, oa b22, oa b59, .unset, .unset, .unset, .unset] [(.int 0), (.ref b244), (.ref b244)])) _
        refine st253 _ ?_
        exact kZ)
      have fa270 := (A244.ext E253)
      have fa271 := (F_coder_b244.ext E253)
      have fa272 := (F_value_b244.ext E253)
      have ch274 := ch141.trans (CHr.ext E244 ch141.1)
      have ch275 := ch274.trans (CHr.ext E253 ch274.1)
      obtain ⟨_, _, ⟨T273, L273, k273, n273⟩, -, X273, hS273, hgr273, ⟨Lc273, hQ273, l273, y273, z273, hC273⟩, st273⟩ := X253.specialBackS hx (y := oM27) rfl hown (mvT hZ (ow hw 29 rfl)) (mvT hZ (ow hw 30 rfl)) (mvT hZ (ow hw 31 rfl)) (by decide) (backOfSH (W := 1) (rm6n0 l Z a0 hw [] b244 b253 (.int 0) k253 h253 n0 Z268 fa270 fa271 fa272 gn_b244 V253) hZ (ow hw 31 rfl) (ow hw 3 rfl) (by decide) (by decide) hEL ch275.1) (g := (mkF m 148 #[oi p0, oi p1, oi p2, oi p3, oi ux4, oi ux5, oi ux6, oi ux7, oi ux8, oi ux9, oi ux10, oi 1, oi bp, oa sa_14, oa b22, oa b59, .unset, .unset, .unset, .unset] [(.ref b253), (.ref b244), (.ref b244)])) rfl (by rw [hml]; rfl) (Steps.refl _) (a := b244) (argsL := [(.ref b253)]) (rest := [(.ref b244)]) (lenOf pd46 rfl) rfl (Nat.le_of_eq rfl) (hb hby at_148) (fun _ _ => ⟨rfl, e253, (by decide : 12 + 4 ≤ _), (by decide : 34 + 8 ≤ _)⟩)
      dsimp only [Pt.U, Pt.locs, Pt.cells, Pt.slots] at X273 l273 y273 z273 st273 hQ273 hS273 hgr273 hC273
      subst l273 y273 z273
      obtain ⟨X273, hS273, hZ, hown⟩ := rebS hS0 (by rw [e253]; exact hk267) X273 hS273 hgr273 hZ hown
      obtain ⟨vb_276, kb_277, kc_278, nb_279, vs_280, rfl, N273q, K273, u273_0, f273_0, f273_1, f273_2, f273_3⟩ := hQ273
      have N273 := Fr.app N92 N273q
      have hk281 := Nat.le_trans hk267 K273.1
      have Z282 : n0 ≤ T273.heap.size := Nat.le_trans Z268 K273.1
      have hkr273 : T273.heap.size ≤ T273.heap.size := Nat.le_refl _
      obtain ⟨ea283, ke283, T283, h283, L283, X283, e283, N283, K283, ge283, gn283, V283, st283⟩ := seg (.ref b244) _ _ _ _ (X273.mono (by decide : 16 ≤ 24) (by decide : 42 ≤ 400)) hZ hown rfl N273 Z282
      have hk284 := Nat.le_trans hkr273 K283.1
      have Z285 : n0 ≤ h283.size := Nat.le_trans Z282 K283.1
      obtain ⟨T286, h286, X286, e286, E286, A286, D286, -, st286⟩ := newO X283 hx hZ hown (ow hw 45 rfl) (ow hw 46 rfl) (ow hw 47 rfl) e283 (g := (mkF m 307 #[oi p0, oi p1, oi p2, oi p3, oi ux4, oi ux5, oi ux6, oi ux7, oi ux8, oi ux9, oi ux10, oi 1, oi bp, oa sa_14, oa b22, oa b59, oa b244, oa ea283, oi 9, .unset] [])) rfl (hb hby at_307) (by decide) (by decide)
      obtain ⟨b286, g286⟩ : ∃ z, z = h283.size := ⟨_, rfl⟩
      rw [← g286] at A286 D286 st286
      have fa287 := (((fa254.ext E253).keep K273).keep K283)
      have ne288 := own_nb fa287.lt g286
      have fa289 := (((fa256.ext E253).keep K273 (ninS ne246 nin0)).keep K283 nin0)
      have ne290 := own_nb fa289.lt g286
      have fa291 := (((fa258.ext E253).keep K273).keep K283)
      have ne292 := own_nb fa291.lt g286
      have fa293 := (((fa260.ext E253).keep K273 (ninS ne248 nin0)).keep K283 nin0)
      have ne294 := own_nb fa293.lt g286
      have fa295 := (((fa262.ext E253).keep K273).keep K283)
      have ne296 := own_nb fa295.lt g286
      have fa297 := (((fa264.ext E253).keep K273 (ninS ne250 nin0)).keep K283 nin0)
      have ne298 := own_nb fa297.lt g286
      have fa299 := (f273_0.keep K283)
      have ne300 := own_nb fa299.lt g286
      have fa301 := (f273_3.keep K283 nin0)
      have ne302 := own_nb fa301.lt g286
      have ne303 := own_nb V283.lt g286
      have gn_b286 : n0 ≤ b286 := Nat.le_trans Z285 (Nat.le_of_eq g286.symm)
      have hk304 := Nat.le_trans hk284 E286.1
      have Z305 : n0 ≤ h286.size := Nat.le_trans Z285 E286.1
      have F_scheme_b286 : Fld Z h286 b286 oU "scheme" "Ljava/lang/String;" .null := D286 (Or.inr (ow hw 53 rfl)) (ty := (.object oS)) (by decide)
      have F_host_b286 : Fld Z h286 b286 oU "host" "Ljava/lang/String;" .null := D286 (Or.inr (ow hw 55 rfl)) (ty := (.object oS)) (by decide)
      have F_hostIsIpv4Address_b286 : Fld Z h286 b286 oU "hostIsIpv4Address" "Z" (.int 0) := D286 (Or.inr (ow hw 57 rfl)) (ty := .boolean) (by decide)
      have F_path_b286 : Fld Z h286 b286 oU "path" "Ljava/lang/String;" .null := D286 (Or.inr (ow hw 59 rfl)) (ty := (.object oS)) (by decide)
      have F_query_b286 : Fld Z h286 b286 oU "query" "Ljava/lang/String;" .null := D286 (Or.inr (ow hw 61 rfl)) (ty := (.object oS)) (by decide)
      obtain ⟨_, _, ⟨T306, L306, k306, n306⟩, -, X306, ⟨Lc306, hQ306, l306, y306, z306⟩, st306⟩ := X286.specialBack hx (y := oM50) rfl hown (mvT hZ (ow hw 48 rfl)) (mvT hZ (ow hw 49 rfl)) (mvT hZ (ow hw 50 rfl)) (by decide) (backOf (W := 1) (rm11q l Z a0 hw [] b286 sa_14 b22 bp b59 b244 .null .null (.int 0) .null .null h286 n0 Z305 A286 F_scheme_b286 F_host_b286 F_hostIsIpv4Address_b286 F_path_b286 F_query_b286 gn_b286) hZ (ow hw 50 rfl) (ow hw 47 rfl) (by decide) (by decide)) (g := (mkF m 321 #[oi p0, oi p1, oi p2, oi p3, oi ux4, oi ux5, oi ux6, oi ux7, oi ux8, oi ux9, oi ux10, oi 1, oi bp, oa sa_14, oa b22, oa b59, oa b244, oa ea283, oi 9, .unset] [(.ref b244), (.ref b59), (.int bp), (.ref b22), (.ref sa_14), (.ref b286), (.ref b286)])) rfl (by rw [hml]; rfl) (Steps.refl _) (a := b286) (argsL := [(.ref sa_14), (.ref b22), (.int bp), (.ref b59), (.ref b244)]) (rest := [(.ref b286)]) (lenOf pd47 rfl) rfl (Nat.le_of_eq rfl) (hb hby at_321) (fun _ _ => ⟨rfl, e286, (by decide : 26 + 0 ≤ _), (by decide : 416 + 0 ≤ _)⟩)
      dsimp only [Pt.U, Pt.locs, Pt.cells, Pt.slots] at X306 l306 y306 z306 st306 hQ306
      subst l306 y306 z306
      obtain ⟨rfl, N306q, K306, f306_0, f306_1, f306_2, f306_3, f306_4⟩ := hQ306
      have N306 := Fr.app N283 N306q
      have hk307 := Nat.le_trans hk304 K306.1
      have Z308 : n0 ≤ T306.heap.size := Nat.le_trans Z305 K306.1
      have pre309 : own_P p e below (T306.setTop (mkF m 324 #[oi p0, oi p1, oi p2, oi p3, oi ux4, oi ux5, oi ux6, oi ux7, oi ux8, oi ux9, oi ux10, oi 1, oi bp, oa sa_14, oa b22, oa b59, oa b244, oa ea283, oi 9, .unset] [(.ref b286)])) (s₁.setTop (entryFrame m #[(.int p0), (.int p1), (.int p2), (.int p3)] maxLocals)) := fun tZ kZ => pre269 tZ (by
        show Steps _ _ _ (T253.setTop (mkF m 148 #[oi p0, oi p1, oi p2, oi p3, oi ux4, oi ux5, oi ux6, oi ux7, oi ux8, oi ux9, oi ux10, oi 1, oi bp, oa sa_14, oa b22, oa b59, .unset, .unset, .unset, .unset] [(.ref b253), (.ref b244), (.ref b244)])) _
        refine st273.trans ?_
        refine XS.astore X273.here hx rfl (hb hby at_151) rfl rfl (l' := #[oi p0, oi p1, oi p2, oi p3, oi ux4, oi ux5, oi ux6, oi ux7, oi ux8, oi ux9, oi ux10, oi 1, oi bp, oa sa_14, oa b22, oa b59, oa b244, .unset, .unset, .unset]) rfl ?_
        refine XS.goto X273.here hx rfl (pc0 := 153) (pc' := 194) rfl (hb hby at_153) (by decide) (by decide) ?_
        refine st283 _ ?_
        refine XS.iload X283.here hx rfl (hb hby at_271) rfl  ?_
        refine XS.ifYes X283.here hx rfl (pc0 := 273) (pc' := 281) rfl (hb hby at_273) rfl ((if0 _ _).trans (feq (by decide)).2) (by decide) (by decide) ?_
        refine XS.iload X283.here hx rfl (hb hby at_281) rfl  ?_
        refine XS.iconst X283.here hx rfl (hb hby at_283) ?_
        show Steps _ _ _ (T283.setTop (mkF m 284 #[oi p0, oi p1, oi p2, oi p3, oi ux4, oi ux5, oi ux6, oi ux7, oi ux8, oi ux9, oi ux10, oi 1, oi bp, oa sa_14, oa b22, oa b59, oa b244, oa ea283, .unset, .unset] [(.int 1), (.int 1)])) _
        refine XS.icmpNo X283.here hx rfl (hb hby at_284) rfl (teq (by decide)).2 ?_
        refine XS.bipush X283.here hx rfl (hb hby at_287) ?_
        refine XS.goto X283.here hx rfl (pc0 := 289) (pc' := 305) rfl (hb hby at_289) (by decide) (by decide) ?_
        refine XS.istore X283.here hx rfl (hb hby at_305) rfl (l' := #[oi p0, oi p1, oi p2, oi p3, oi ux4, oi ux5, oi ux6, oi ux7, oi ux8, oi ux9, oi ux10, oi 1, oi bp, oa sa_14, oa b22, oa b59, oa b244, oa ea283, oi 9, .unset]) rfl ?_
        refine st286 _ ?_
        refine XS.dup X286.here hx rfl (hb hby at_310) rfl rfl ?_
        refine XS.aload X286.here hx rfl (hb hby at_311) rfl rfl ?_
        refine XS.aload X286.here hx rfl (hb hby at_313) rfl rfl ?_
        show Steps _ _ _ (T286.setTop (mkF m 315 #[oi p0, oi p1, oi p2, oi p3, oi ux4, oi ux5, oi ux6, oi ux7, oi ux8, oi ux9, oi ux10, oi 1, oi bp, oa sa_14, oa b22, oa b59, oa b244, oa ea283, oi 9, .unset] [(.ref b22), (.ref sa_14), (.ref b286), (.ref b286)])) _
        refine XS.iload X286.here hx rfl (hb hby at_315) rfl  ?_
        refine XS.aload X286.here hx rfl (hb hby at_317) rfl rfl ?_
        refine XS.aload X286.here hx rfl (hb hby at_319) rfl rfl ?_
        refine st306.trans ?_
        exact kZ)
      have fa310 := ((fa287.ext E286).keep K306)
      have fa311 := ((((((fa108.ext E244).ext E253).keep K273 (ninS ne245 nin0)).keep K283 nin0).ext E286).keep K306 (ninS ne288 nin0))
      have fa312 := ((((((fa109.ext E244).ext E253).keep K273 (ninS ne245 nin0)).keep K283 nin0).ext E286).keep K306 (ninS ne288 nin0))
      have fa313 := ((fa289.ext E286).keep K306 (ninS ne290 nin0))
      have fa314 := ((fa291.ext E286).keep K306)
      have fa315 := ((((((fa112.ext E244).ext E253).keep K273 (ninS ne247 nin0)).keep K283 nin0).ext E286).keep K306 (ninS ne292 nin0))
      have fa316 := ((((((fa113.ext E244).ext E253).keep K273 (ninS ne247 nin0)).keep K283 nin0).ext E286).keep K306 (ninS ne292 nin0))
      have fa317 := ((fa293.ext E286).keep K306 (ninS ne294 nin0))
      have fa318 := ((fa295.ext E286).keep K306)
      have fa319 := ((((((f92_1.ext E244).ext E253).keep K273 (ninS ne249 nin0)).keep K283 nin0).ext E286).keep K306 (ninS ne296 nin0))
      have fa320 := ((((((f92_2.ext E244).ext E253).keep K273 (ninS ne249 nin0)).keep K283 nin0).ext E286).keep K306 (ninS ne296 nin0))
      have fa321 := ((fa297.ext E286).keep K306 (ninS ne298 nin0))
      have fa322 := ((fa299.ext E286).keep K306)
      have fa323 := (((f273_1.keep K283 nin0).ext E286).keep K306 (ninS ne300 nin0))
      have fa324 := (((f273_2.keep K283 nin0).ext E286).keep K306 (ninS ne300 nin0))
      have fa325 := ((fa301.ext E286).keep K306 (ninS ne302 nin0))
      have fa326 := ((((((fa106.ext E244).ext E253).keep K273 (allS (P := fun x => n0 ≤ x) gn_b244 all0)).keep K283 all0).ext E286).keep K306 (allS (P := fun x => n0 ≤ x) gn_b286 all0))
      have ch328 := ch275.trans hC273
      have ch329 := ch328.trans (CHr.keep K283 all0 ch328.1)
      have ch330 := ch329.trans (CHr.ext E286 ch329.1)
      have sf331 := (Safe.new (Nat.le_of_eq g286.symm) : Safe Z own_EL T273.vm _ b286)
      have sf332 := Safe.ext E286 ch329.1 sf331
      have ch333 := ch330.trans (CHr.keep K306 (own_aS sf332 all0) ch330.1)
      obtain ⟨cq327, kq327, q327a, q327b, q327c⟩ := isOf hZ rfl f306_0
      obtain ⟨_, _, ⟨T327, L327, k327, n327⟩, -, X327, hS327, hgr327, ⟨Lc327, hQ327, l327, y327, z327, hC327⟩, st327⟩ := X306.virtualBackS hx (y := oM51) (z := oM51) hown (mvT hZ (ow hw 62 rfl)) (mvT hZ (ow hw 63 rfl)) (notFace_of_selects (args := #[]) (mvT hZ (ow hw 65 rfl))) (mvT hZ (ow hw 65 rfl)) (mvT hZ (ow hw 64 rfl)) (by decide) (backOfSH (W := 0) (rm12q l Z a0 hw [] b286 sa_14 vb_15 kb_16 kc_17 nb_18 vs_19 [ux4] b22 vb_48 kb_49 kc_50 nb_51 vs_52 [ux5, ux6] b59 vb_93 kb_94 kc_95 nb_96 vs_97 [ux7, ux8] b244 vb_276 kb_277 kc_278 nb_279 vs_280 [] cs fm T306.heap n0 Z308 f306_0 f306_1 f306_2 f306_3 f306_4 fa310 fa311 fa312 fa313 fa314 fa315 fa316 fa317 fa318 fa319 fa320 fa321 fa322 fa323 fa324 fa325 (by first | assumption | decide | omega) (by first | assumption | decide | omega) (by first | assumption | decide | omega) (by first | assumption | decide | omega) (by simp) Cs hcs fa326 Fm hfm Ua Uh Ul) hZ (ow hw 66 rfl) (ow hw 47 rfl) (by decide) (by decide) hEL ch333.1) q327a q327c (g := (mkF m 324 #[oi p0, oi p1, oi p2, oi p3, oi ux4, oi ux5, oi ux6, oi ux7, oi ux8, oi ux9, oi ux10, oi 1, oi bp, oa sa_14, oa b22, oa b59, oa b244, oa ea283, oi 9, .unset] [(.ref b286)])) rfl (by rw [hml]; rfl) (Steps.refl _) (argsL := []) (rest := []) (lenOf pd42 rfl) rfl (Nat.le_of_eq rfl) (hb hby at_324) (fun _ _ => ⟨rfl, rfl, (by decide : 26 + 19 ≤ _), (by decide : 416 + 360 ≤ _)⟩)
      dsimp only [Pt.U, Pt.locs, Pt.cells, Pt.slots] at X327 l327 y327 z327 st327 hQ327 hS327 hgr327 hC327
      subst l327 y327 z327
      obtain ⟨X327, hS327, hZ, hown⟩ := rebS hS273 hk307 X327 hS327 hgr327 hZ hown
      obtain ⟨sr_334, vb_335, kb_336, kc_337, nb_338, vs_339, rfl, N327q, K327, u327_0, f327_0, f327_1, f327_2, f327_3⟩ := hQ327
      have N327 := Fr.app N306 N327q
      have hk340 := Nat.le_trans hk307 K327.1
      have Z341 : n0 ≤ T327.heap.size := Nat.le_trans Z308 K327.1
      have hkr327 : T327.heap.size ≤ T327.heap.size := Nat.le_refl _
      have pre342 : own_P p e below (T327.setTop (mkF m 327 #[oi p0, oi p1, oi p2, oi p3, oi ux4, oi ux5, oi ux6, oi ux7, oi ux8, oi ux9, oi ux10, oi 1, oi bp, oa sa_14, oa b22, oa b59, oa b244, oa ea283, oi 9, .unset] [(.ref sr_334)])) (s₁.setTop (entryFrame m #[(.int p0), (.int p1), (.int p2), (.int p3)] maxLocals)) := fun tZ kZ => pre309 tZ (by
        show Steps _ _ _ (T306.setTop (mkF m 324 #[oi p0, oi p1, oi p2, oi p3, oi ux4, oi ux5, oi ux6, oi ux7, oi ux8, oi ux9, oi ux10, oi 1, oi bp, oa sa_14, oa b22, oa b59, oa b244, oa ea283, oi 9, .unset] [(.ref b286)])) _
        refine st327.trans ?_
        exact kZ)
      have hq343 : own_enc [ux4, 58, 47, 47, ux5, ux6, ux7, ux8, 63] kc_337 nb_338 vs_339 := u327_0
      have fa344 := (fa326.keep K327 all0)
      have fa345 := (((V283.ext E286).keep K306 (ninS ne303 nin0)).keep K327 nin0)
      exact ⟨_, _, sr_334, vb_335, kb_336, kc_337, nb_338, vs_339, ea283, ke283, (9 : Int32), [ux4, 58, 47, 47, ux5, ux6, ux7, ux8, 63], (.ref b244), X327.mono (by decide : 45 ≤ 60) (by decide : 776 ≤ 2400), hS327, hZ, hown, N327, Z341, fa344, f327_0, f327_1, f327_2, f327_3, fa345, hq343, rfl, own_atP (ts := [(.int ux9), (.int ux10)]) hq343.1 rfl, pre342⟩
    ·  -- kind 2
      obtain ⟨_, _, ⟨T346, L346, k346, n346⟩, -, X346, ⟨Lc346, hQ346, l346, y346, z346⟩, st346⟩ := Jvm.LawKit.callS X92 hx (y := oM25) hown (mvT hZ (ow hw 1 rfl)) (mvT hZ (ow hw 2 rfl)) (mvT hZ (ow hw 3 rfl)) (mvT hZ (ow hw 4 rfl)) (by decide) (backOf (W := 0) (rm1 l Z a0 hw [] ux9 cs T92.heap n0 Z99 Cs hcs fa106 Ua Uh Ul (by first | assumption | decide | omega)) hZ (ow hw 4 rfl) (ow hw 3 rfl) (by decide) (by decide)) (g := (mkF m 164 #[oi p0, oi p1, oi p2, oi p3, oi ux4, oi ux5, oi ux6, oi ux7, oi ux8, oi ux9, oi ux10, oi 2, oi bp, oa sa_14, oa b22, oa b59, .unset, .unset, .unset, .unset] [(.int ux9)])) rfl (by rw [hml]; rfl) (argsL := [(.int ux9)]) (rest := []) (lenOf pd45 rfl) rfl (Nat.le_of_eq rfl) (hb hby at_164) (fun _ _ => ⟨rfl, rfl, (by decide : 10 + 2 ≤ _), (by decide : 30 + 6 ≤ _)⟩)
      dsimp only [Pt.U, Pt.locs, Pt.cells, Pt.slots] at X346 l346 y346 z346 st346 hQ346
      subst l346 y346 z346
      obtain ⟨sa_347, vb_348, kb_349, kc_350, nb_351, vs_352, rfl, N346q, K346, u346_0, u346_1, u346_2, u346_3, u346_4, f346_0, f346_1, f346_2, f346_3⟩ := hQ346
      have N346 := Fr.app N92 N346q
      have hk353 := Nat.le_trans hk98 K346.1
      have Z354 : n0 ≤ T346.heap.size := Nat.le_trans Z99 K346.1
      have ne355 := own_nc fa107.lt u346_1
      have ne356 := own_nc fa110.lt u346_1
      have ne357 := own_nc fa111.lt u346_1
      have ne358 := own_nc fa114.lt u346_1
      have ne359 := own_nc f92_0.lt u346_1
      have ne360 := own_nc f92_3.lt u346_1
      have ne361 := own_nc fa107.lt u346_3
      have ne362 := own_nc fa110.lt u346_3
      have ne363 := own_nc fa111.lt u346_3
      have ne364 := own_nc fa114.lt u346_3
      have ne365 := own_nc f92_0.lt u346_3
      have ne366 := own_nc f92_3.lt u346_3
      obtain ⟨ea367, ke367, T367, h367, L367, X367, e367, N367, K367, ge367, gn367, V367, st367⟩ := seg (.ref sa_347) _ _ _ _ (X346.mono (by decide : 12 ≤ 24) (by decide : 36 ≤ 400)) hZ hown rfl N346 Z354
      have hk368 := Nat.le_trans hk353 K367.1
      have Z369 : n0 ≤ h367.size := Nat.le_trans Z354 K367.1
      obtain ⟨T370, h370, X370, e370, E370, A370, D370, -, st370⟩ := newO X367 hx hZ hown (ow hw 45 rfl) (ow hw 46 rfl) (ow hw 47 rfl) e367 (g := (mkF m 307 #[oi p0, oi p1, oi p2, oi p3, oi ux4, oi ux5, oi ux6, oi ux7, oi ux8, oi ux9, oi ux10, oi 2, oi bp, oa sa_14, oa b22, oa b59, oa sa_347, oa ea367, oi 10, .unset] [])) rfl (hb hby at_307) (by decide) (by decide)
      obtain ⟨b370, g370⟩ : ∃ z, z = h367.size := ⟨_, rfl⟩
      rw [← g370] at A370 D370 st370
      have fa371 := ((fa107.keep K346).keep K367)
      have ne372 := own_nb fa371.lt g370
      have fa373 := ((fa110.keep K346 nin0).keep K367 nin0)
      have ne374 := own_nb fa373.lt g370
      have fa375 := ((fa111.keep K346).keep K367)
      have ne376 := own_nb fa375.lt g370
      have fa377 := ((fa114.keep K346 nin0).keep K367 nin0)
      have ne378 := own_nb fa377.lt g370
      have fa379 := ((f92_0.keep K346).keep K367)
      have ne380 := own_nb fa379.lt g370
      have fa381 := ((f92_3.keep K346 nin0).keep K367 nin0)
      have ne382 := own_nb fa381.lt g370
      have fa383 := (f346_0.keep K367)
      have ne384 := own_nb fa383.lt g370
      have fa385 := (f346_3.keep K367 nin0)
      have ne386 := own_nb fa385.lt g370
      have ne387 := own_nb V367.lt g370
      have gn_b370 : n0 ≤ b370 := Nat.le_trans Z369 (Nat.le_of_eq g370.symm)
      have hk388 := Nat.le_trans hk368 E370.1
      have Z389 : n0 ≤ h370.size := Nat.le_trans Z369 E370.1
      have F_scheme_b370 : Fld Z h370 b370 oU "scheme" "Ljava/lang/String;" .null := D370 (Or.inr (ow hw 53 rfl)) (ty := (.object oS)) (by decide)
      have F_host_b370 : Fld Z h370 b370 oU "host" "Ljava/lang/String;" .null := D370 (Or.inr (ow hw 55 rfl)) (ty := (.object oS)) (by decide)
      have F_hostIsIpv4Address_b370 : Fld Z h370 b370 oU "hostIsIpv4Address" "Z" (.int 0) := D370 (Or.inr (ow hw 57 rfl)) (ty := .boolean) (by decide)
      have F_path_b370 : Fld Z h370 b370 oU "path" "Ljava/lang/String;" .null := D370 (Or.inr (ow hw 59 rfl)) (ty := (.object oS)) (by decide)
      have F_query_b370 : Fld Z h370 b370 oU "query" "Ljava/lang/String;" .null := D370 (Or.inr (ow hw 61 rfl)) (ty := (.object oS)) (by decide)
      obtain ⟨_, _, ⟨T390, L390, k390, n390⟩, -, X390, ⟨Lc390, hQ390, l390, y390, z390⟩, st390⟩ := X370.specialBack hx (y := oM50) rfl hown (mvT hZ (ow hw 48 rfl)) (mvT hZ (ow hw 49 rfl)) (mvT hZ (ow hw 50 rfl)) (by decide) (backOf (W := 1) (rm11q l Z a0 hw [] b370 sa_14 b22 bp b59 sa_347 .null .null (.int 0) .null .null h370 n0 Z389 A370 F_scheme_b370 F_host_b370 F_hostIsIpv4Address_b370 F_path_b370 F_query_b370 gn_b370) hZ (ow hw 50 rfl) (ow hw 47 rfl) (by decide) (by decide)) (g := (mkF m 321 #[oi p0, oi p1, oi p2, oi p3, oi ux4, oi ux5, oi ux6, oi ux7, oi ux8, oi ux9, oi ux10, oi 2, oi bp, oa sa_14, oa b22, oa b59, oa sa_347, oa ea367, oi 10, .unset] [(.ref sa_347), (.ref b59), (.int bp), (.ref b22), (.ref sa_14), (.ref b370), (.ref b370)])) rfl (by rw [hml]; rfl) (Steps.refl _) (a := b370) (argsL := [(.ref sa_14), (.ref b22), (.int bp), (.ref b59), (.ref sa_347)]) (rest := [(.ref b370)]) (lenOf pd47 rfl) rfl (Nat.le_of_eq rfl) (hb hby at_321) (fun _ _ => ⟨rfl, e370, (by decide : 26 + 0 ≤ _), (by decide : 416 + 0 ≤ _)⟩)
      dsimp only [Pt.U, Pt.locs, Pt.cells, Pt.slots] at X390 l390 y390 z390 st390 hQ390
      subst l390 y390 z390
      obtain ⟨rfl, N390q, K390, f390_0, f390_1, f390_2, f390_3, f390_4⟩ := hQ390
      have N390 := Fr.app N367 N390q
      have hk391 := Nat.le_trans hk388 K390.1
      have Z392 : n0 ≤ T390.heap.size := Nat.le_trans Z389 K390.1
      have pre393 : own_P p e below (T390.setTop (mkF m 324 #[oi p0, oi p1, oi p2, oi p3, oi ux4, oi ux5, oi ux6, oi ux7, oi ux8, oi ux9, oi ux10, oi 2, oi bp, oa sa_14, oa b22, oa b59, oa sa_347, oa ea367, oi 10, .unset] [(.ref b370)])) (s₁.setTop (entryFrame m #[(.int p0), (.int p1), (.int p2), (.int p3)] maxLocals)) := fun tZ kZ => pre142 tZ (by
        show Steps _ _ _ (T92.setTop (mkF m 124 #[oi p0, oi p1, oi p2, oi p3, oi ux4, oi ux5, oi ux6, oi ux7, oi ux8, oi ux9, oi ux10, oi 2, oi bp, oa sa_14, oa b22, oa b59, .unset, .unset, .unset, .unset] [])) _
        refine XS.iload X92.here hx rfl (hb hby at_124) rfl  ?_
        refine XS.ifYes X92.here hx rfl (pc0 := 126) (pc' := 135) rfl (hb hby at_126) rfl ((if0 _ _).trans (feq (by decide)).2) (by decide) (by decide) ?_
        refine XS.iload X92.here hx rfl (hb hby at_135) rfl  ?_
        refine XS.iconst X92.here hx rfl (hb hby at_137) ?_
        refine XS.icmpYes X92.here hx rfl (pc0 := 138) (pc' := 156) rfl (hb hby at_138) rfl (feq (by decide)).2 (by decide) (by decide) ?_
        refine XS.iload X92.here hx rfl (hb hby at_156) rfl  ?_
        refine XS.iconst X92.here hx rfl (hb hby at_158) ?_
        refine XS.icmpNo X92.here hx rfl (hb hby at_159) rfl (teq (by decide)).2 ?_
        show Steps _ _ _ (T92.setTop (mkF m 162 #[oi p0, oi p1, oi p2, oi p3, oi ux4, oi ux5, oi ux6, oi ux7, oi ux8, oi ux9, oi ux10, oi 2, oi bp, oa sa_14, oa b22, oa b59, .unset, .unset, .unset, .unset] [])) _
        refine XS.iload X92.here hx rfl (hb hby at_162) rfl  ?_
        refine st346 _ ?_
        refine XS.astore X346.here hx rfl (hb hby at_167) rfl rfl (l' := #[oi p0, oi p1, oi p2, oi p3, oi ux4, oi ux5, oi ux6, oi ux7, oi ux8, oi ux9, oi ux10, oi 2, oi bp, oa sa_14, oa b22, oa b59, oa sa_347, .unset, .unset, .unset]) rfl ?_
        refine XS.goto X346.here hx rfl (pc0 := 169) (pc' := 194) rfl (hb hby at_169) (by decide) (by decide) ?_
        refine st367 _ ?_
        refine XS.iload X367.here hx rfl (hb hby at_271) rfl  ?_
        refine XS.ifYes X367.here hx rfl (pc0 := 273) (pc' := 281) rfl (hb hby at_273) rfl ((if0 _ _).trans (feq (by decide)).2) (by decide) (by decide) ?_
        refine XS.iload X367.here hx rfl (hb hby at_281) rfl  ?_
        show Steps _ _ _ (T367.setTop (mkF m 283 #[oi p0, oi p1, oi p2, oi p3, oi ux4, oi ux5, oi ux6, oi ux7, oi ux8, oi ux9, oi ux10, oi 2, oi bp, oa sa_14, oa b22, oa b59, oa sa_347, oa ea367, .unset, .unset] [(.int 2)])) _
        refine XS.iconst X367.here hx rfl (hb hby at_283) ?_
        refine XS.icmpYes X367.here hx rfl (pc0 := 284) (pc' := 292) rfl (hb hby at_284) rfl (feq (by decide)).2 (by decide) (by decide) ?_
        refine XS.iload X367.here hx rfl (hb hby at_292) rfl  ?_
        refine XS.iconst X367.here hx rfl (hb hby at_294) ?_
        refine XS.icmpNo X367.here hx rfl (hb hby at_295) rfl (teq (by decide)).2 ?_
        refine XS.bipush X367.here hx rfl (hb hby at_298) ?_
        refine XS.goto X367.here hx rfl (pc0 := 300) (pc' := 305) rfl (hb hby at_300) (by decide) (by decide) ?_
        refine XS.istore X367.here hx rfl (hb hby at_305) rfl (l' := #[oi p0, oi p1, oi p2, oi p3, oi ux4, oi ux5, oi ux6, oi ux7, oi ux8, oi ux9, oi ux10, oi 2, oi bp, oa sa_14, oa b22, oa b59, oa sa_347, oa ea367, oi 10, .unset]) rfl ?_
        show Steps _ _ _ (T367.setTop (mkF m 307 #[oi p0, oi p1, oi p2, oi p3, oi ux4, oi ux5, oi ux6, oi ux7, oi ux8, oi ux9, oi ux10, oi 2, oi bp, oa sa_14, oa b22, oa b59, oa sa_347, oa ea367, oi 10, .unset] [])) _
        refine st370 _ ?_
        refine XS.dup X370.here hx rfl (hb hby at_310) rfl rfl ?_
        refine XS.aload X370.here hx rfl (hb hby at_311) rfl rfl ?_
        refine XS.aload X370.here hx rfl (hb hby at_313) rfl rfl ?_
        refine XS.iload X370.here hx rfl (hb hby at_315) rfl  ?_
        refine XS.aload X370.here hx rfl (hb hby at_317) rfl rfl ?_
        refine XS.aload X370.here hx rfl (hb hby at_319) rfl rfl ?_
        refine st390.trans ?_
        exact kZ)
      have fa394 := ((fa371.ext E370).keep K390)
      have fa395 := ((((fa108.keep K346 nin0).keep K367 nin0).ext E370).keep K390 (ninS ne372 nin0))
      have fa396 := ((((fa109.keep K346 nin0).keep K367 nin0).ext E370).keep K390 (ninS ne372 nin0))
      have fa397 := ((fa373.ext E370).keep K390 (ninS ne374 nin0))
      have fa398 := ((fa375.ext E370).keep K390)
      have fa399 := ((((fa112.keep K346 nin0).keep K367 nin0).ext E370).keep K390 (ninS ne376 nin0))
      have fa400 := ((((fa113.keep K346 nin0).keep K367 nin0).ext E370).keep K390 (ninS ne376 nin0))
      have fa401 := ((fa377.ext E370).keep K390 (ninS ne378 nin0))
      have fa402 := ((fa379.ext E370).keep K390)
      have fa403 := ((((f92_1.keep K346 nin0).keep K367 nin0).ext E370).keep K390 (ninS ne380 nin0))
      have fa404 := ((((f92_2.keep K346 nin0).keep K367 nin0).ext E370).keep K390 (ninS ne380 nin0))
      have fa405 := ((fa381.ext E370).keep K390 (ninS ne382 nin0))
      have fa406 := ((fa383.ext E370).keep K390)
      have fa407 := (((f346_1.keep K367 nin0).ext E370).keep K390 (ninS ne384 nin0))
      have fa408 := (((f346_2.keep K367 nin0).ext E370).keep K390 (ninS ne384 nin0))
      have fa409 := ((fa385.ext E370).keep K390 (ninS ne386 nin0))
      have fa410 := ((((fa106.keep K346 all0).keep K367 all0).ext E370).keep K390 (allS (P := fun x => n0 ≤ x) gn_b370 all0))
      have ch412 := ch141.trans (CHr.keep K346 all0 ch141.1)
      have ch413 := ch412.trans (CHr.keep K367 all0 ch412.1)
      have ch414 := ch413.trans (CHr.ext E370 ch413.1)
      have sf415 := (Safe.new (Nat.le_of_eq g370.symm) : Safe Z own_EL s.vm _ b370)
      have sf416 := Safe.ext E370 ch413.1 sf415
      have ch417 := ch414.trans (CHr.keep K390 (own_aS sf416 all0) ch414.1)
      obtain ⟨cq411, kq411, q411a, q411b, q411c⟩ := isOf hZ rfl f390_0
      obtain ⟨_, _, ⟨T411, L411, k411, n411⟩, -, X411, hS411, hgr411, ⟨Lc411, hQ411, l411, y411, z411, hC411⟩, st411⟩ := X390.virtualBackS hx (y := oM51) (z := oM51) hown (mvT hZ (ow hw 62 rfl)) (mvT hZ (ow hw 63 rfl)) (notFace_of_selects (args := #[]) (mvT hZ (ow hw 65 rfl))) (mvT hZ (ow hw 65 rfl)) (mvT hZ (ow hw 64 rfl)) (by decide) (backOfSH (W := 0) (rm12q l Z a0 hw [] b370 sa_14 vb_15 kb_16 kc_17 nb_18 vs_19 [ux4] b22 vb_48 kb_49 kc_50 nb_51 vs_52 [ux5, ux6] b59 vb_93 kb_94 kc_95 nb_96 vs_97 [ux7, ux8] sa_347 vb_348 kb_349 kc_350 nb_351 vs_352 [ux9] cs fm T390.heap n0 Z392 f390_0 f390_1 f390_2 f390_3 f390_4 fa394 fa395 fa396 fa397 fa398 fa399 fa400 fa401 fa402 fa403 fa404 fa405 fa406 fa407 fa408 fa409 (by first | assumption | decide | omega) (by first | assumption | decide | omega) (by first | assumption | decide | omega) (by first | assumption | decide | omega) (by simp) Cs hcs fa410 Fm hfm Ua Uh Ul) hZ (ow hw 66 rfl) (ow hw 47 rfl) (by decide) (by decide) hEL ch417.1) q411a q411c (g := (mkF m 324 #[oi p0, oi p1, oi p2, oi p3, oi ux4, oi ux5, oi ux6, oi ux7, oi ux8, oi ux9, oi ux10, oi 2, oi bp, oa sa_14, oa b22, oa b59, oa sa_347, oa ea367, oi 10, .unset] [(.ref b370)])) rfl (by rw [hml]; rfl) (Steps.refl _) (argsL := []) (rest := []) (lenOf pd42 rfl) rfl (Nat.le_of_eq rfl) (hb hby at_324) (fun _ _ => ⟨rfl, rfl, (by decide : 26 + 19 ≤ _), (by decide : 416 + 360 ≤ _)⟩)
      dsimp only [Pt.U, Pt.locs, Pt.cells, Pt.slots] at X411 l411 y411 z411 st411 hQ411 hS411 hgr411 hC411
      subst l411 y411 z411
      obtain ⟨X411, hS411, hZ, hown⟩ := rebS hS0 hk391 X411 hS411 hgr411 hZ hown
      obtain ⟨sr_418, vb_419, kb_420, kc_421, nb_422, vs_423, rfl, N411q, K411, u411_0, f411_0, f411_1, f411_2, f411_3⟩ := hQ411
      have N411 := Fr.app N390 N411q
      have hk424 := Nat.le_trans hk391 K411.1
      have Z425 : n0 ≤ T411.heap.size := Nat.le_trans Z392 K411.1
      have hkr411 : T411.heap.size ≤ T411.heap.size := Nat.le_refl _
      have pre426 : own_P p e below (T411.setTop (mkF m 327 #[oi p0, oi p1, oi p2, oi p3, oi ux4, oi ux5, oi ux6, oi ux7, oi ux8, oi ux9, oi ux10, oi 2, oi bp, oa sa_14, oa b22, oa b59, oa sa_347, oa ea367, oi 10, .unset] [(.ref sr_418)])) (s₁.setTop (entryFrame m #[(.int p0), (.int p1), (.int p2), (.int p3)] maxLocals)) := fun tZ kZ => pre393 tZ (by
        show Steps _ _ _ (T390.setTop (mkF m 324 #[oi p0, oi p1, oi p2, oi p3, oi ux4, oi ux5, oi ux6, oi ux7, oi ux8, oi ux9, oi ux10, oi 2, oi bp, oa sa_14, oa b22, oa b59, oa sa_347, oa ea367, oi 10, .unset] [(.ref b370)])) _
        refine st411.trans ?_
        exact kZ)
      have hq427 : own_enc [ux4, 58, 47, 47, ux5, ux6, ux7, ux8, 63, ux9] kc_421 nb_422 vs_423 := u411_0
      have fa428 := (fa410.keep K411 all0)
      have fa429 := (((V367.ext E370).keep K390 (ninS ne387 nin0)).keep K411 nin0)
      exact ⟨_, _, sr_418, vb_419, kb_420, kc_421, nb_422, vs_423, ea367, ke367, (10 : Int32), [ux4, 58, 47, 47, ux5, ux6, ux7, ux8, 63, ux9], (.ref sa_347), X411.mono (by decide : 45 ≤ 60) (by decide : 776 ≤ 2400), hS411, hZ, hown, N411, Z425, fa428, f411_0, f411_1, f411_2, f411_3, fa429, hq427, rfl, own_atP (ts := [(.int ux10)]) hq427.1 rfl, pre426⟩
    ·  -- kind 3
      obtain ⟨T430, h430, X430, e430, E430, A430, D430, -, st430⟩ := newO X92 hx hZ hown (ow hw 27 rfl) (ow hw 11 rfl) (ow hw 3 rfl) rfl (g := (mkF m 172 #[oi p0, oi p1, oi p2, oi p3, oi ux4, oi ux5, oi ux6, oi ux7, oi ux8, oi ux9, oi ux10, oi 3, oi bp, oa sa_14, oa b22, oa b59, .unset, .unset, .unset, .unset] [])) rfl (hb hby at_172) (by decide) (by decide)
      obtain ⟨b430, g430⟩ : ∃ z, z = T92.heap.size := ⟨_, rfl⟩
      rw [← g430] at A430 D430 st430
      have ne431 := own_nb fa107.lt g430
      have ne432 := own_nb fa110.lt g430
      have ne433 := own_nb fa111.lt g430
      have ne434 := own_nb fa114.lt g430
      have ne435 := own_nb f92_0.lt g430
      have ne436 := own_nb f92_3.lt g430
      have gn_b430 : n0 ≤ b430 := Nat.le_trans Z99 (Nat.le_of_eq g430.symm)
      have hk437 := Nat.le_trans hk98 E430.1
      have Z438 : n0 ≤ h430.size := Nat.le_trans Z99 E430.1
      have F_value_b430 : Fld Z h430 b430 oS "value" "[B" .null := D430 (Or.inr (ow hw 24 rfl)) (ty := (.array .byte)) (by decide)
      have F_coder_b430 : Fld Z h430 b430 oS "coder" "B" (.int 0) := D430 (Or.inr (ow hw 26 rfl)) (ty := .byte) (by decide)
      obtain ⟨T439, h439, k439, X439, e439, E439, A439, st439⟩ := newP X430 hx hZ (ow hw 28 rfl) e430 (g := (mkF m 177 #[oi p0, oi p1, oi p2, oi p3, oi ux4, oi ux5, oi ux6, oi ux7, oi ux8, oi ux9, oi ux10, oi 3, oi bp, oa sa_14, oa b22, oa b59, .unset, .unset, .unset, .unset] [(.int 2), (.ref b430), (.ref b430)])) rfl (hb hby at_177) rfl (by decide) (cap := 2) (by decide) (by decide) (by decide) (by decide)
      obtain ⟨b439, g439⟩ : ∃ z, z = h430.size := ⟨_, rfl⟩
      rw [← g439] at A439 st439
      have fa440 := (fa107.ext E430)
      have ne441 := own_nb fa440.lt g439
      have fa442 := (fa110.ext E430)
      have ne443 := own_nb fa442.lt g439
      have fa444 := (fa111.ext E430)
      have ne445 := own_nb fa444.lt g439
      have fa446 := (fa114.ext E430)
      have ne447 := own_nb fa446.lt g439
      have fa448 := (f92_0.ext E430)
      have ne449 := own_nb fa448.lt g439
      have fa450 := (f92_3.ext E430)
      have ne451 := own_nb fa450.lt g439
      have ne452 := own_nb A430.lt g439
      have gn_b439 : n0 ≤ b439 := Nat.le_trans Z438 (Nat.le_of_eq g439.symm)
      have hk453 := Nat.le_trans hk437 E439.1
      have Z454 : n0 ≤ h439.size := Nat.le_trans Z438 E439.1
      have V439 : Arv Z h439 b439 k439 .char (2 : Int32) [(.int 0), (.int 0)] (.int 0) := (Arv.new A439 (by decide)).pad (pad_rep [] (.int 0) 2)
      obtain ⟨c455, Arc455, qc455, Sc455, Mc455, Hc455, Gc455⟩ := id V439
      have hinc455 : ¬ ((0 : Int32) < 0 ∨ c455.slots.size ≤ ((0 : Int32)).toNatClampNeg) := inb_of Sc455 ⟨by decide, by decide⟩
      obtain ⟨T456, h456, X456, e456, W456, st456⟩ := stC X439 hx hZ e439 Arc455 (j := (0 : Int32)) hinc455  (g := (mkF m 183 #[oi p0, oi p1, oi p2, oi p3, oi ux4, oi ux5, oi ux6, oi ux7, oi ux8, oi ux9, oi ux10, oi 3, oi bp, oa sa_14, oa b22, oa b59, .unset, .unset, .unset, .unset] [(.int ux9), (.int 0), (.ref b439), (.ref b439), (.ref b430), (.ref b430)])) rfl rfl (hb hby at_183)
      have V456 : Arv Z h456 b439 k439 .char (2 : Int32) [(.int ux9), (.int 0)] (.int 0) := by have q := Arv.set Arc455 qc455 Sc455 Mc455 Hc455 Gc455 (fits_nar_char _) W456 0 rfl (Nat.le_of_ble_eq_true rfl); rw [(show nar .char ux9 = ux9 from own_i2c hcx9)] at q; exact q
      have hk457 := Nat.le_trans hk453 (Nat.le_of_eq W456.size.symm)
      have Z458 : n0 ≤ h456.size := Nat.le_trans Z454 (Nat.le_of_eq W456.size.symm)
      have N456 := Fr.snoc X456 N92 gn_b439
      obtain ⟨c459, Arc459, qc459, Sc459, Mc459, Hc459, Gc459⟩ := id V456
      have hinc459 : ¬ ((1 : Int32) < 0 ∨ c459.slots.size ≤ ((1 : Int32)).toNatClampNeg) := inb_of Sc459 ⟨by decide, by decide⟩
      obtain ⟨T460, h460, X460, e460, W460, st460⟩ := stC X456 hx hZ e456 Arc459 (j := (1 : Int32)) hinc459  (g := (mkF m 188 #[oi p0, oi p1, oi p2, oi p3, oi ux4, oi ux5, oi ux6, oi ux7, oi ux8, oi ux9, oi ux10, oi 3, oi bp, oa sa_14, oa b22, oa b59, .unset, .unset, .unset, .unset] [(.int ux10), (.int 1), (.ref b439), (.ref b439), (.ref b430), (.ref b430)])) rfl rfl (hb hby at_188)
      have V460 : Arv Z h460 b439 k439 .char (2 : Int32) [(.int ux9), (.int ux10)] (.int 0) := by have q := Arv.set Arc459 qc459 Sc459 Mc459 Hc459 Gc459 (fits_nar_char _) W460 1 rfl (Nat.le_of_ble_eq_true rfl); rw [(show nar .char ux10 = ux10 from own_i2c hcx10)] at q; exact q
      have hk461 := Nat.le_trans hk457 (Nat.le_of_eq W460.size.symm)
      have Z462 : n0 ≤ h460.size := Nat.le_trans Z458 (Nat.le_of_eq W460.size.symm)
      have N460 := Fr.snoc X460 N456 gn_b439
      have fa463 := (((A430.ext E439).wr W456).wr W460)
      have fa464 := (((F_coder_b430.ext E439).other W456 (Or.inl ne452)).other W460 (Or.inl ne452))
      have fa465 := (((F_value_b430.ext E439).other W456 (Or.inl ne452)).other W460 (Or.inl ne452))
      have fa466 := ((((fa106.ext E430).ext E439).wr W456 gn_b439).wr W460 gn_b439)
      obtain ⟨_, _, ⟨T467, L467, k467, n467⟩, -, X467, ⟨Lc467, hQ467, l467, y467, z467⟩, st467⟩ := X460.specialBack hx (y := oM27) rfl hown (mvT hZ (ow hw 29 rfl)) (mvT hZ (ow hw 30 rfl)) (mvT hZ (ow hw 31 rfl)) (by decide) (backOf (W := 1) (rm6n2 l Z a0 hw [] b430 b439 (.int 0) .null k439 ux9 ux10 cs h460 n0 Z462 fa463 fa464 fa465 gn_b430 V460 ne452 Ua Uh Ul (by first | assumption | decide | omega) (by first | assumption | decide | omega) Cs hcs fa466) hZ (ow hw 31 rfl) (ow hw 3 rfl) (by decide) (by decide)) (g := (mkF m 189 #[oi p0, oi p1, oi p2, oi p3, oi ux4, oi ux5, oi ux6, oi ux7, oi ux8, oi ux9, oi ux10, oi 3, oi bp, oa sa_14, oa b22, oa b59, .unset, .unset, .unset, .unset] [(.ref b439), (.ref b430), (.ref b430)])) rfl (by rw [hml]; rfl) (Steps.refl _) (a := b430) (argsL := [(.ref b439)]) (rest := [(.ref b430)]) (lenOf pd46 rfl) rfl (Nat.le_of_eq rfl) (hb hby at_189) (fun _ _ => ⟨rfl, e460, (by decide : 12 + 2 ≤ _), (by decide : 36 + 6 ≤ _)⟩)
      dsimp only [Pt.U, Pt.locs, Pt.cells, Pt.slots] at X467 l467 y467 z467 st467 hQ467
      subst l467 y467 z467
      obtain ⟨vb_468, kb_469, kc_470, nb_471, vs_472, rfl, N467q, K467, u467_0, u467_1, u467_2, f467_0, f467_1, f467_2, f467_3⟩ := hQ467
      have N467 := Fr.app N460 N467q
      have hk473 := Nat.le_trans hk461 K467.1
      have Z474 : n0 ≤ T467.heap.size := Nat.le_trans Z462 K467.1
      have ne475 := own_nc (((fa440.ext E439).wr W456).wr W460).lt u467_1
      have ne476 := own_nc (((fa442.ext E439).other W456 ne443).other W460 ne443).lt u467_1
      have ne477 := own_nc (((fa444.ext E439).wr W456).wr W460).lt u467_1
      have ne478 := own_nc (((fa446.ext E439).other W456 ne447).other W460 ne447).lt u467_1
      have ne479 := own_nc (((fa448.ext E439).wr W456).wr W460).lt u467_1
      have ne480 := own_nc (((fa450.ext E439).other W456 ne451).other W460 ne451).lt u467_1
      have ne481 := own_nc fa463.lt u467_1
      have ne482 := own_nc V460.lt u467_1
      obtain ⟨ea483, ke483, T483, h483, L483, X483, e483, N483, K483, ge483, gn483, V483, st483⟩ := seg (.ref b430) _ _ _ _ (X467.mono (by decide : 14 ≤ 24) (by decide : 42 ≤ 400)) hZ hown rfl N467 Z474
      have hk484 := Nat.le_trans hk473 K483.1
      have Z485 : n0 ≤ h483.size := Nat.le_trans Z474 K483.1
      obtain ⟨T486, h486, X486, e486, E486, A486, D486, -, st486⟩ := newO X483 hx hZ hown (ow hw 45 rfl) (ow hw 46 rfl) (ow hw 47 rfl) e483 (g := (mkF m 307 #[oi p0, oi p1, oi p2, oi p3, oi ux4, oi ux5, oi ux6, oi ux7, oi ux8, oi ux9, oi ux10, oi 3, oi bp, oa sa_14, oa b22, oa b59, oa b430, oa ea483, oi 11, .unset] [])) rfl (hb hby at_307) (by decide) (by decide)
      obtain ⟨b486, g486⟩ : ∃ z, z = h483.size := ⟨_, rfl⟩
      rw [← g486] at A486 D486 st486
      have fa487 := (((((fa440.ext E439).wr W456).wr W460).keep K467).keep K483)
      have ne488 := own_nb fa487.lt g486
      have fa489 := (((((fa442.ext E439).other W456 ne443).other W460 ne443).keep K467 (ninS ne432 nin0)).keep K483 nin0)
      have ne490 := own_nb fa489.lt g486
      have fa491 := (((((fa444.ext E439).wr W456).wr W460).keep K467).keep K483)
      have ne492 := own_nb fa491.lt g486
      have fa493 := (((((fa446.ext E439).other W456 ne447).other W460 ne447).keep K467 (ninS ne434 nin0)).keep K483 nin0)
      have ne494 := own_nb fa493.lt g486
      have fa495 := (((((fa448.ext E439).wr W456).wr W460).keep K467).keep K483)
      have ne496 := own_nb fa495.lt g486
      have fa497 := (((((fa450.ext E439).other W456 ne451).other W460 ne451).keep K467 (ninS ne436 nin0)).keep K483 nin0)
      have ne498 := own_nb fa497.lt g486
      have fa499 := (f467_0.keep K483)
      have ne500 := own_nb fa499.lt g486
      have fa501 := (f467_3.keep K483 nin0)
      have ne502 := own_nb fa501.lt g486
      have ne503 := own_nb V483.lt g486
      have gn_b486 : n0 ≤ b486 := Nat.le_trans Z485 (Nat.le_of_eq g486.symm)
      have hk504 := Nat.le_trans hk484 E486.1
      have Z505 : n0 ≤ h486.size := Nat.le_trans Z485 E486.1
      have F_scheme_b486 : Fld Z h486 b486 oU "scheme" "Ljava/lang/String;" .null := D486 (Or.inr (ow hw 53 rfl)) (ty := (.object oS)) (by decide)
      have F_host_b486 : Fld Z h486 b486 oU "host" "Ljava/lang/String;" .null := D486 (Or.inr (ow hw 55 rfl)) (ty := (.object oS)) (by decide)
      have F_hostIsIpv4Address_b486 : Fld Z h486 b486 oU "hostIsIpv4Address" "Z" (.int 0) := D486 (Or.inr (ow hw 57 rfl)) (ty := .boolean) (by decide)
      have F_path_b486 : Fld Z h486 b486 oU "path" "Ljava/lang/String;" .null := D486 (Or.inr (ow hw 59 rfl)) (ty := (.object oS)) (by decide)
      have F_query_b486 : Fld Z h486 b486 oU "query" "Ljava/lang/String;" .null := D486 (Or.inr (ow hw 61 rfl)) (ty := (.object oS)) (by decide)
      obtain ⟨_, _, ⟨T506, L506, k506, n506⟩, -, X506, ⟨Lc506, hQ506, l506, y506, z506⟩, st506⟩ := X486.specialBack hx (y := oM50) rfl hown (mvT hZ (ow hw 48 rfl)) (mvT hZ (ow hw 49 rfl)) (mvT hZ (ow hw 50 rfl)) (by decide) (backOf (W := 1) (rm11q l Z a0 hw [] b486 sa_14 b22 bp b59 b430 .null .null (.int 0) .null .null h486 n0 Z505 A486 F_scheme_b486 F_host_b486 F_hostIsIpv4Address_b486 F_path_b486 F_query_b486 gn_b486) hZ (ow hw 50 rfl) (ow hw 47 rfl) (by decide) (by decide)) (g := (mkF m 321 #[oi p0, oi p1, oi p2, oi p3, oi ux4, oi ux5, oi ux6, oi ux7, oi ux8, oi ux9, oi ux10, oi 3, oi bp, oa sa_14, oa b22, oa b59, oa b430, oa ea483, oi 11, .unset] [(.ref b430), (.ref b59), (.int bp), (.ref b22), (.ref sa_14), (.ref b486), (.ref b486)])) rfl (by rw [hml]; rfl) (Steps.refl _) (a := b486) (argsL := [(.ref sa_14), (.ref b22), (.int bp), (.ref b59), (.ref b430)]) (rest := [(.ref b486)]) (lenOf pd47 rfl) rfl (Nat.le_of_eq rfl) (hb hby at_321) (fun _ _ => ⟨rfl, e486, (by decide : 26 + 0 ≤ _), (by decide : 416 + 0 ≤ _)⟩)
      dsimp only [Pt.U, Pt.locs, Pt.cells, Pt.slots] at X506 l506 y506 z506 st506 hQ506
      subst l506 y506 z506
      obtain ⟨rfl, N506q, K506, f506_0, f506_1, f506_2, f506_3, f506_4⟩ := hQ506
      have N506 := Fr.app N483 N506q
      have hk507 := Nat.le_trans hk504 K506.1
      have Z508 : n0 ≤ T506.heap.size := Nat.le_trans Z505 K506.1
      have pre509 : own_P p e below (T506.setTop (mkF m 324 #[oi p0, oi p1, oi p2, oi p3, oi ux4, oi ux5, oi ux6, oi ux7, oi ux8, oi ux9, oi ux10, oi 3, oi bp, oa sa_14, oa b22, oa b59, oa b430, oa ea483, oi 11, .unset] [(.ref b486)])) (s₁.setTop (entryFrame m #[(.int p0), (.int p1), (.int p2), (.int p3)] maxLocals)) := fun tZ kZ => pre142 tZ (by
        show Steps _ _ _ (T92.setTop (mkF m 124 #[oi p0, oi p1, oi p2, oi p3, oi ux4, oi ux5, oi ux6, oi ux7, oi ux8, oi ux9, oi ux10, oi 3, oi bp, oa sa_14, oa b22, oa b59, .unset, .unset, .unset, .unset] [])) _
        refine XS.iload X92.here hx rfl (hb hby at_124) rfl  ?_
        refine XS.ifYes X92.here hx rfl (pc0 := 126) (pc' := 135) rfl (hb hby at_126) rfl ((if0 _ _).trans (feq (by decide)).2) (by decide) (by decide) ?_
        refine XS.iload X92.here hx rfl (hb hby at_135) rfl  ?_
        refine XS.iconst X92.here hx rfl (hb hby at_137) ?_
        refine XS.icmpYes X92.here hx rfl (pc0 := 138) (pc' := 156) rfl (hb hby at_138) rfl (feq (by decide)).2 (by decide) (by decide) ?_
        refine XS.iload X92.here hx rfl (hb hby at_156) rfl  ?_
        refine XS.iconst X92.here hx rfl (hb hby at_158) ?_
        refine XS.icmpYes X92.here hx rfl (pc0 := 159) (pc' := 172) rfl (hb hby at_159) rfl (feq (by decide)).2 (by decide) (by decide) ?_
        show Steps _ _ _ (T92.setTop (mkF m 172 #[oi p0, oi p1, oi p2, oi p3, oi ux4, oi ux5, oi ux6, oi ux7, oi ux8, oi ux9, oi ux10, oi 3, oi bp, oa sa_14, oa b22, oa b59, .unset, .unset, .unset, .unset] [])) _
        refine st430 _ ?_
        refine XS.dup X430.here hx rfl (hb hby at_175) rfl rfl ?_
        refine XS.iconst X430.here hx rfl (hb hby at_176) ?_
        refine st439 _ ?_
        refine XS.dup X439.here hx rfl (hb hby at_179) rfl rfl ?_
        refine XS.iconst X439.here hx rfl (hb hby at_180) ?_
        refine XS.iload X439.here hx rfl (hb hby at_181) rfl  ?_
        refine st456 _ ?_
        show Steps _ _ _ (T456.setTop (mkF m 184 #[oi p0, oi p1, oi p2, oi p3, oi ux4, oi ux5, oi ux6, oi ux7, oi ux8, oi ux9, oi ux10, oi 3, oi bp, oa sa_14, oa b22, oa b59, .unset, .unset, .unset, .unset] [(.ref b439), (.ref b430), (.ref b430)])) _
        refine XS.dup X456.here hx rfl (hb hby at_184) rfl rfl ?_
        refine XS.iconst X456.here hx rfl (hb hby at_185) ?_
        refine XS.iload X456.here hx rfl (hb hby at_186) rfl  ?_
        refine st460 _ ?_
        refine st467.trans ?_
        refine XS.astore X467.here hx rfl (hb hby at_192) rfl rfl (l' := #[oi p0, oi p1, oi p2, oi p3, oi ux4, oi ux5, oi ux6, oi ux7, oi ux8, oi ux9, oi ux10, oi 3, oi bp, oa sa_14, oa b22, oa b59, oa b430, .unset, .unset, .unset]) rfl ?_
        refine st483 _ ?_
        refine XS.iload X483.here hx rfl (hb hby at_271) rfl  ?_
        show Steps _ _ _ (T483.setTop (mkF m 273 #[oi p0, oi p1, oi p2, oi p3, oi ux4, oi ux5, oi ux6, oi ux7, oi ux8, oi ux9, oi ux10, oi 3, oi bp, oa sa_14, oa b22, oa b59, oa b430, oa ea483, .unset, .unset] [(.int 3)])) _
        refine XS.ifYes X483.here hx rfl (pc0 := 273) (pc' := 281) rfl (hb hby at_273) rfl ((if0 _ _).trans (feq (by decide)).2) (by decide) (by decide) ?_
        refine XS.iload X483.here hx rfl (hb hby at_281) rfl  ?_
        refine XS.iconst X483.here hx rfl (hb hby at_283) ?_
        refine XS.icmpYes X483.here hx rfl (pc0 := 284) (pc' := 292) rfl (hb hby at_284) rfl (feq (by decide)).2 (by decide) (by decide) ?_
        refine XS.iload X483.here hx rfl (hb hby at_292) rfl  ?_
        refine XS.iconst X483.here hx rfl (hb hby at_294) ?_
        refine XS.icmpYes X483.here hx rfl (pc0 := 295) (pc' := 303) rfl (hb hby at_295) rfl (feq (by decide)).2 (by decide) (by decide) ?_
        refine XS.bipush X483.here hx rfl (hb hby at_303) ?_
        show Steps _ _ _ (T483.setTop (mkF m 305 #[oi p0, oi p1, oi p2, oi p3, oi ux4, oi ux5, oi ux6, oi ux7, oi ux8, oi ux9, oi ux10, oi 3, oi bp, oa sa_14, oa b22, oa b59, oa b430, oa ea483, .unset, .unset] [(.int 11)])) _
        refine XS.istore X483.here hx rfl (hb hby at_305) rfl (l' := #[oi p0, oi p1, oi p2, oi p3, oi ux4, oi ux5, oi ux6, oi ux7, oi ux8, oi ux9, oi ux10, oi 3, oi bp, oa sa_14, oa b22, oa b59, oa b430, oa ea483, oi 11, .unset]) rfl ?_
        refine st486 _ ?_
        refine XS.dup X486.here hx rfl (hb hby at_310) rfl rfl ?_
        refine XS.aload X486.here hx rfl (hb hby at_311) rfl rfl ?_
        refine XS.aload X486.here hx rfl (hb hby at_313) rfl rfl ?_
        refine XS.iload X486.here hx rfl (hb hby at_315) rfl  ?_
        refine XS.aload X486.here hx rfl (hb hby at_317) rfl rfl ?_
        refine XS.aload X486.here hx rfl (hb hby at_319) rfl rfl ?_
        show Steps _ _ _ (T486.setTop (mkF m 321 #[oi p0, oi p1, oi p2, oi p3, oi ux4, oi ux5, oi ux6, oi ux7, oi ux8, oi ux9, oi ux10, oi 3, oi bp, oa sa_14, oa b22, oa b59, oa b430, oa ea483, oi 11, .unset] [(.ref b430), (.ref b59), (.int bp), (.ref b22), (.ref sa_14), (.ref b486), (.ref b486)])) _
        refine st506.trans ?_
        exact kZ)
      have fa510 := ((fa487.ext E486).keep K506)
      have fa511 := ((((((((fa108.ext E430).ext E439).other W456 (Or.inl ne441)).other W460 (Or.inl ne441)).keep K467 (ninS ne431 nin0)).keep K483 nin0).ext E486).keep K506 (ninS ne488 nin0))
      have fa512 := ((((((((fa109.ext E430).ext E439).other W456 (Or.inl ne441)).other W460 (Or.inl ne441)).keep K467 (ninS ne431 nin0)).keep K483 nin0).ext E486).keep K506 (ninS ne488 nin0))
      have fa513 := ((fa489.ext E486).keep K506 (ninS ne490 nin0))
      have fa514 := ((fa491.ext E486).keep K506)
      have fa515 := ((((((((fa112.ext E430).ext E439).other W456 (Or.inl ne445)).other W460 (Or.inl ne445)).keep K467 (ninS ne433 nin0)).keep K483 nin0).ext E486).keep K506 (ninS ne492 nin0))
      have fa516 := ((((((((fa113.ext E430).ext E439).other W456 (Or.inl ne445)).other W460 (Or.inl ne445)).keep K467 (ninS ne433 nin0)).keep K483 nin0).ext E486).keep K506 (ninS ne492 nin0))
      have fa517 := ((fa493.ext E486).keep K506 (ninS ne494 nin0))
      have fa518 := ((fa495.ext E486).keep K506)
      have fa519 := ((((((((f92_1.ext E430).ext E439).other W456 (Or.inl ne449)).other W460 (Or.inl ne449)).keep K467 (ninS ne435 nin0)).keep K483 nin0).ext E486).keep K506 (ninS ne496 nin0))
      have fa520 := ((((((((f92_2.ext E430).ext E439).other W456 (Or.inl ne449)).other W460 (Or.inl ne449)).keep K467 (ninS ne435 nin0)).keep K483 nin0).ext E486).keep K506 (ninS ne496 nin0))
      have fa521 := ((fa497.ext E486).keep K506 (ninS ne498 nin0))
      have fa522 := ((fa499.ext E486).keep K506)
      have fa523 := (((f467_1.keep K483 nin0).ext E486).keep K506 (ninS ne500 nin0))
      have fa524 := (((f467_2.keep K483 nin0).ext E486).keep K506 (ninS ne500 nin0))
      have fa525 := ((fa501.ext E486).keep K506 (ninS ne502 nin0))
      have fa526 := ((((fa466.keep K467 (allS (P := fun x => n0 ≤ x) gn_b430 all0)).keep K483 all0).ext E486).keep K506 (allS (P := fun x => n0 ≤ x) gn_b486 all0))
      have ch528 := ch141.trans (CHr.ext E430 ch141.1)
      have ch529 := ch528.trans (CHr.ext E439 ch528.1)
      have sf530 := (Safe.new (Nat.le_of_eq g439.symm) : Safe Z own_EL s.vm _ b439)
      have sf531 := Safe.ext E439 ch528.1 sf530
      have ch532 := ch529.trans (CHr.wr W456 sf531 ch529.1)
      have sf533 := Safe.wr W456 sf531 ch529.1 sf531
      have ch534 := ch532.trans (CHr.wr W460 sf533 ch532.1)
      have sf535 := (Safe.new (Nat.le_of_eq g430.symm) : Safe Z own_EL s.vm _ b430)
      have sf536 := Safe.ext E430 ch141.1 sf535
      have sf537 := Safe.ext E439 ch528.1 sf536
      have sf538 := Safe.wr W456 sf531 ch529.1 sf537
      have sf539 := Safe.wr W460 sf533 ch532.1 sf538
      have ch540 := ch534.trans (CHr.keep K467 (own_aS sf539 all0) ch534.1)
      have ch541 := ch540.trans (CHr.keep K483 all0 ch540.1)
      have ch542 := ch541.trans (CHr.ext E486 ch541.1)
      have sf543 := (Safe.new (Nat.le_of_eq g486.symm) : Safe Z own_EL s.vm _ b486)
      have sf544 := Safe.ext E486 ch541.1 sf543
      have ch545 := ch542.trans (CHr.keep K506 (own_aS sf544 all0) ch542.1)
      obtain ⟨cq527, kq527, q527a, q527b, q527c⟩ := isOf hZ rfl f506_0
      obtain ⟨_, _, ⟨T527, L527, k527, n527⟩, -, X527, hS527, hgr527, ⟨Lc527, hQ527, l527, y527, z527, hC527⟩, st527⟩ := X506.virtualBackS hx (y := oM51) (z := oM51) hown (mvT hZ (ow hw 62 rfl)) (mvT hZ (ow hw 63 rfl)) (notFace_of_selects (args := #[]) (mvT hZ (ow hw 65 rfl))) (mvT hZ (ow hw 65 rfl)) (mvT hZ (ow hw 64 rfl)) (by decide) (backOfSH (W := 0) (rm12q l Z a0 hw [] b486 sa_14 vb_15 kb_16 kc_17 nb_18 vs_19 [ux4] b22 vb_48 kb_49 kc_50 nb_51 vs_52 [ux5, ux6] b59 vb_93 kb_94 kc_95 nb_96 vs_97 [ux7, ux8] b430 vb_468 kb_469 kc_470 nb_471 vs_472 [ux9, ux10] cs fm T506.heap n0 Z508 f506_0 f506_1 f506_2 f506_3 f506_4 fa510 fa511 fa512 fa513 fa514 fa515 fa516 fa517 fa518 fa519 fa520 fa521 fa522 fa523 fa524 fa525 (by first | assumption | decide | omega) (by first | assumption | decide | omega) (by first | assumption | decide | omega) (by first | assumption | decide | omega) (by simp) Cs hcs fa526 Fm hfm Ua Uh Ul) hZ (ow hw 66 rfl) (ow hw 47 rfl) (by decide) (by decide) hEL ch545.1) q527a q527c (g := (mkF m 324 #[oi p0, oi p1, oi p2, oi p3, oi ux4, oi ux5, oi ux6, oi ux7, oi ux8, oi ux9, oi ux10, oi 3, oi bp, oa sa_14, oa b22, oa b59, oa b430, oa ea483, oi 11, .unset] [(.ref b486)])) rfl (by rw [hml]; rfl) (Steps.refl _) (argsL := []) (rest := []) (lenOf pd42 rfl) rfl (Nat.le_of_eq rfl) (hb hby at_324) (fun _ _ => ⟨rfl, rfl, (by decide : 26 + 19 ≤ _), (by decide : 416 + 360 ≤ _)⟩)
      dsimp only [Pt.U, Pt.locs, Pt.cells, Pt.slots] at X527 l527 y527 z527 st527 hQ527 hS527 hgr527 hC527
      subst l527 y527 z527
      obtain ⟨X527, hS527, hZ, hown⟩ := rebS hS0 hk507 X527 hS527 hgr527 hZ hown
      obtain ⟨sr_546, vb_547, kb_548, kc_549, nb_550, vs_551, rfl, N527q, K527, u527_0, f527_0, f527_1, f527_2, f527_3⟩ := hQ527
      have N527 := Fr.app N506 N527q
      have hk552 := Nat.le_trans hk507 K527.1
      have Z553 : n0 ≤ T527.heap.size := Nat.le_trans Z508 K527.1
      have hkr527 : T527.heap.size ≤ T527.heap.size := Nat.le_refl _
      have pre554 : own_P p e below (T527.setTop (mkF m 327 #[oi p0, oi p1, oi p2, oi p3, oi ux4, oi ux5, oi ux6, oi ux7, oi ux8, oi ux9, oi ux10, oi 3, oi bp, oa sa_14, oa b22, oa b59, oa b430, oa ea483, oi 11, .unset] [(.ref sr_546)])) (s₁.setTop (entryFrame m #[(.int p0), (.int p1), (.int p2), (.int p3)] maxLocals)) := fun tZ kZ => pre509 tZ (by
        show Steps _ _ _ (T506.setTop (mkF m 324 #[oi p0, oi p1, oi p2, oi p3, oi ux4, oi ux5, oi ux6, oi ux7, oi ux8, oi ux9, oi ux10, oi 3, oi bp, oa sa_14, oa b22, oa b59, oa b430, oa ea483, oi 11, .unset] [(.ref b486)])) _
        refine st527.trans ?_
        exact kZ)
      have hq555 : own_enc [ux4, 58, 47, 47, ux5, ux6, ux7, ux8, 63, ux9, ux10] kc_549 nb_550 vs_551 := u527_0
      have fa556 := (fa526.keep K527 all0)
      have fa557 := (((V483.ext E486).keep K506 (ninS ne503 nin0)).keep K527 nin0)
      exact ⟨_, _, sr_546, vb_547, kb_548, kc_549, nb_550, vs_551, ea483, ke483, (11 : Int32), [ux4, 58, 47, 47, ux5, ux6, ux7, ux8, 63, ux9, ux10], (.ref b430), X527.mono (by decide : 45 ≤ 60) (by decide : 776 ≤ 2400), hS527, hZ, hown, N527, Z553, fa556, f527_0, f527_1, f527_2, f527_3, fa557, hq555, rfl, own_atP (ts := []) hq555.1 rfl, pre554⟩
  obtain ⟨Tj, Lj, sr, vbj, kbj, kcj, nbj, vsj, ea, ke, nj, usj, qj, Xj, hSj, hZ, hown, Nj, Zj, Oj, fj0, fj1, fj2, fj3, Vj, hej, hnj, haj, prej⟩ := J
  have hkj : Tj.heap.size ≤ Tj.heap.size := Nat.le_refl _
  obtain ⟨cq558, kq558, q558a, q558b, q558c⟩ := isOf hZ rfl fj0
  obtain ⟨_, _, ⟨T558, L558, k558, n558⟩, -, X558, ⟨Lc558, hQ558, l558, y558, z558⟩, st558⟩ := Xj.virtualBack hx (y := oM14) (z := oM14) hown (mvT hZ (ow hw 180 rfl)) (mvT hZ (ow hw 96 rfl)) (notFace_of_selects (args := #[]) (mvT hZ (ow hw 98 rfl))) (mvT hZ (ow hw 98 rfl)) (mvT hZ (ow hw 97 rfl)) (by decide) (backOf (W := 0) (rm17 l Z a0 hw [] sr vbj kbj kcj nbj vsj cs nj Tj.heap n0 Zj fj0 fj1 fj2 fj3 (own_kcE hej) Cs hcs Oj (Int32.toInt_inj.mp ((own_lnE hej).trans hnj.symm))) hZ (ow hw 99 rfl) (ow hw 3 rfl) (by decide) (by decide)) q558a q558c (g := (mkF m 336 #[oi p0, oi p1, oi p2, oi p3, oi ux4, oi ux5, oi ux6, oi ux7, oi ux8, oi ux9, oi ux10, oi kk, oi bp, oa sa_14, oa b22, oa b59, .val qj, oa ea, oi nj, oa sr] [(.ref sr)])) rfl (by rw [hml]; rfl) (Steps.refl _) (argsL := []) (rest := []) (lenOf pd31 rfl) rfl (Nat.le_of_eq rfl) (hb hby at_336) (fun _ _ => ⟨rfl, rfl, (by decide : 60 + 0 ≤ _), (by decide : 2400 + 0 ≤ _)⟩)
  dsimp only [Pt.U, Pt.locs, Pt.cells, Pt.slots] at X558 l558 y558 z558 st558 hQ558
  subst l558 y558 z558
  obtain ⟨rfl, N558q, e558⟩ := hQ558
  have N558 := Fr.app Nj N558q
  obtain ⟨_, _, ⟨T559, L559, k559, n559⟩, -, X559, ⟨Lc559, hQ559, l559, y559, z559⟩, st559⟩ := Jvm.LawKit.callS X558 hx (y := oM52) hown (mvT hZ (ow hw 181 rfl)) (mvT hZ (ow hw 182 rfl)) (mvT hZ (ow hw 183 rfl)) (mvT hZ (ow hw 184 rfl)) (by decide) (backOf (W := 0) (rm34 l Z a0 hw [] sr ea nj (0 : Int32) vbj kbj kcj nbj vsj usj ke [(.int ux4), (.int 58), (.int 47), (.int 47), (.int ux5), (.int ux6), (.int ux7), (.int ux8), (.int 63), (.int ux9), (.int ux10)] cs fm Tj.heap n0 Zj fj0 fj1 fj2 fj3 hej Vj (by decide) (by decide) (haj _ (by decide) (by decide)) Cs hcs Oj Fm hfm Ua Uh Ul) hZ (ow hw 184 rfl) (ow hw 183 rfl) (by decide) (by decide)) (g := (mkF m 353 #[oi p0, oi p1, oi p2, oi p3, oi ux4, oi ux5, oi ux6, oi ux7, oi ux8, oi ux9, oi ux10, oi kk, oi bp, oa sa_14, oa b22, oa b59, .val qj, oa ea, oi nj, oa sr] [(.int 0), (.int nj), (.ref ea), (.ref sr)])) rfl (by rw [hml]; rfl) (argsL := [(.ref sr), (.ref ea), (.int nj), (.int 0)]) (rest := []) (lenOf pd48 rfl) rfl (Nat.le_of_eq rfl) (hb hby at_353) (fun _ _ => ⟨rfl, e558, (by decide : 60 + 0 ≤ _), (by decide : 2400 + 0 ≤ _)⟩)
  dsimp only [Pt.U, Pt.locs, Pt.cells, Pt.slots] at X559 l559 y559 z559 st559 hQ559
  subst l559 y559 z559
  obtain ⟨rfl, N559q, e559⟩ := hQ559
  have N559 := Fr.app N558 N559q
  obtain ⟨_, _, ⟨T560, L560, k560, n560⟩, -, X560, ⟨Lc560, hQ560, l560, y560, z560⟩, st560⟩ := Jvm.LawKit.callS X559 hx (y := oM52) hown (mvT hZ (ow hw 181 rfl)) (mvT hZ (ow hw 182 rfl)) (mvT hZ (ow hw 183 rfl)) (mvT hZ (ow hw 184 rfl)) (by decide) (backOf (W := 0) (rm34 l Z a0 hw [] sr ea nj (1 : Int32) vbj kbj kcj nbj vsj usj ke [(.int ux4), (.int 58), (.int 47), (.int 47), (.int ux5), (.int ux6), (.int ux7), (.int ux8), (.int 63), (.int ux9), (.int ux10)] cs fm Tj.heap n0 Zj fj0 fj1 fj2 fj3 hej Vj (by decide) (by decide) (haj _ (by decide) (by decide)) Cs hcs Oj Fm hfm Ua Uh Ul) hZ (ow hw 184 rfl) (ow hw 183 rfl) (by decide) (by decide)) (g := (mkF m 366 #[oi p0, oi p1, oi p2, oi p3, oi ux4, oi ux5, oi ux6, oi ux7, oi ux8, oi ux9, oi ux10, oi kk, oi bp, oa sa_14, oa b22, oa b59, .val qj, oa ea, oi nj, oa sr] [(.int 1), (.int nj), (.ref ea), (.ref sr)])) rfl (by rw [hml]; rfl) (argsL := [(.ref sr), (.ref ea), (.int nj), (.int 1)]) (rest := []) (lenOf pd48 rfl) rfl (Nat.le_of_eq rfl) (hb hby at_366) (fun _ _ => ⟨rfl, e559, (by decide : 60 + 0 ≤ _), (by decide : 2400 + 0 ≤ _)⟩)
  dsimp only [Pt.U, Pt.locs, Pt.cells, Pt.slots] at X560 l560 y560 z560 st560 hQ560
  subst l560 y560 z560
  obtain ⟨rfl, N560q, e560⟩ := hQ560
  have N560 := Fr.app N559 N560q
  obtain ⟨_, _, ⟨T561, L561, k561, n561⟩, -, X561, ⟨Lc561, hQ561, l561, y561, z561⟩, st561⟩ := Jvm.LawKit.callS X560 hx (y := oM52) hown (mvT hZ (ow hw 181 rfl)) (mvT hZ (ow hw 182 rfl)) (mvT hZ (ow hw 183 rfl)) (mvT hZ (ow hw 184 rfl)) (by decide) (backOf (W := 0) (rm34 l Z a0 hw [] sr ea nj (2 : Int32) vbj kbj kcj nbj vsj usj ke [(.int ux4), (.int 58), (.int 47), (.int 47), (.int ux5), (.int ux6), (.int ux7), (.int ux8), (.int 63), (.int ux9), (.int ux10)] cs fm Tj.heap n0 Zj fj0 fj1 fj2 fj3 hej Vj (by decide) (by decide) (haj _ (by decide) (by decide)) Cs hcs Oj Fm hfm Ua Uh Ul) hZ (ow hw 184 rfl) (ow hw 183 rfl) (by decide) (by decide)) (g := (mkF m 379 #[oi p0, oi p1, oi p2, oi p3, oi ux4, oi ux5, oi ux6, oi ux7, oi ux8, oi ux9, oi ux10, oi kk, oi bp, oa sa_14, oa b22, oa b59, .val qj, oa ea, oi nj, oa sr] [(.int 2), (.int nj), (.ref ea), (.ref sr)])) rfl (by rw [hml]; rfl) (argsL := [(.ref sr), (.ref ea), (.int nj), (.int 2)]) (rest := []) (lenOf pd48 rfl) rfl (Nat.le_of_eq rfl) (hb hby at_379) (fun _ _ => ⟨rfl, e560, (by decide : 60 + 0 ≤ _), (by decide : 2400 + 0 ≤ _)⟩)
  dsimp only [Pt.U, Pt.locs, Pt.cells, Pt.slots] at X561 l561 y561 z561 st561 hQ561
  subst l561 y561 z561
  obtain ⟨rfl, N561q, e561⟩ := hQ561
  have N561 := Fr.app N560 N561q
  obtain ⟨_, _, ⟨T562, L562, k562, n562⟩, -, X562, ⟨Lc562, hQ562, l562, y562, z562⟩, st562⟩ := Jvm.LawKit.callS X561 hx (y := oM52) hown (mvT hZ (ow hw 181 rfl)) (mvT hZ (ow hw 182 rfl)) (mvT hZ (ow hw 183 rfl)) (mvT hZ (ow hw 184 rfl)) (by decide) (backOf (W := 0) (rm34 l Z a0 hw [] sr ea nj (3 : Int32) vbj kbj kcj nbj vsj usj ke [(.int ux4), (.int 58), (.int 47), (.int 47), (.int ux5), (.int ux6), (.int ux7), (.int ux8), (.int 63), (.int ux9), (.int ux10)] cs fm Tj.heap n0 Zj fj0 fj1 fj2 fj3 hej Vj (by decide) (by decide) (haj _ (by decide) (by decide)) Cs hcs Oj Fm hfm Ua Uh Ul) hZ (ow hw 184 rfl) (ow hw 183 rfl) (by decide) (by decide)) (g := (mkF m 392 #[oi p0, oi p1, oi p2, oi p3, oi ux4, oi ux5, oi ux6, oi ux7, oi ux8, oi ux9, oi ux10, oi kk, oi bp, oa sa_14, oa b22, oa b59, .val qj, oa ea, oi nj, oa sr] [(.int 3), (.int nj), (.ref ea), (.ref sr)])) rfl (by rw [hml]; rfl) (argsL := [(.ref sr), (.ref ea), (.int nj), (.int 3)]) (rest := []) (lenOf pd48 rfl) rfl (Nat.le_of_eq rfl) (hb hby at_392) (fun _ _ => ⟨rfl, e561, (by decide : 60 + 0 ≤ _), (by decide : 2400 + 0 ≤ _)⟩)
  dsimp only [Pt.U, Pt.locs, Pt.cells, Pt.slots] at X562 l562 y562 z562 st562 hQ562
  subst l562 y562 z562
  obtain ⟨rfl, N562q, e562⟩ := hQ562
  have N562 := Fr.app N561 N562q
  obtain ⟨_, _, ⟨T563, L563, k563, n563⟩, -, X563, ⟨Lc563, hQ563, l563, y563, z563⟩, st563⟩ := Jvm.LawKit.callS X562 hx (y := oM52) hown (mvT hZ (ow hw 181 rfl)) (mvT hZ (ow hw 182 rfl)) (mvT hZ (ow hw 183 rfl)) (mvT hZ (ow hw 184 rfl)) (by decide) (backOf (W := 0) (rm34 l Z a0 hw [] sr ea nj (4 : Int32) vbj kbj kcj nbj vsj usj ke [(.int ux4), (.int 58), (.int 47), (.int 47), (.int ux5), (.int ux6), (.int ux7), (.int ux8), (.int 63), (.int ux9), (.int ux10)] cs fm Tj.heap n0 Zj fj0 fj1 fj2 fj3 hej Vj (by decide) (by decide) (haj _ (by decide) (by decide)) Cs hcs Oj Fm hfm Ua Uh Ul) hZ (ow hw 184 rfl) (ow hw 183 rfl) (by decide) (by decide)) (g := (mkF m 405 #[oi p0, oi p1, oi p2, oi p3, oi ux4, oi ux5, oi ux6, oi ux7, oi ux8, oi ux9, oi ux10, oi kk, oi bp, oa sa_14, oa b22, oa b59, .val qj, oa ea, oi nj, oa sr] [(.int 4), (.int nj), (.ref ea), (.ref sr)])) rfl (by rw [hml]; rfl) (argsL := [(.ref sr), (.ref ea), (.int nj), (.int 4)]) (rest := []) (lenOf pd48 rfl) rfl (Nat.le_of_eq rfl) (hb hby at_405) (fun _ _ => ⟨rfl, e562, (by decide : 60 + 0 ≤ _), (by decide : 2400 + 0 ≤ _)⟩)
  dsimp only [Pt.U, Pt.locs, Pt.cells, Pt.slots] at X563 l563 y563 z563 st563 hQ563
  subst l563 y563 z563
  obtain ⟨rfl, N563q, e563⟩ := hQ563
  have N563 := Fr.app N562 N563q
  obtain ⟨_, _, ⟨T564, L564, k564, n564⟩, -, X564, ⟨Lc564, hQ564, l564, y564, z564⟩, st564⟩ := Jvm.LawKit.callS X563 hx (y := oM52) hown (mvT hZ (ow hw 181 rfl)) (mvT hZ (ow hw 182 rfl)) (mvT hZ (ow hw 183 rfl)) (mvT hZ (ow hw 184 rfl)) (by decide) (backOf (W := 0) (rm34 l Z a0 hw [] sr ea nj (5 : Int32) vbj kbj kcj nbj vsj usj ke [(.int ux4), (.int 58), (.int 47), (.int 47), (.int ux5), (.int ux6), (.int ux7), (.int ux8), (.int 63), (.int ux9), (.int ux10)] cs fm Tj.heap n0 Zj fj0 fj1 fj2 fj3 hej Vj (by decide) (by decide) (haj _ (by decide) (by decide)) Cs hcs Oj Fm hfm Ua Uh Ul) hZ (ow hw 184 rfl) (ow hw 183 rfl) (by decide) (by decide)) (g := (mkF m 418 #[oi p0, oi p1, oi p2, oi p3, oi ux4, oi ux5, oi ux6, oi ux7, oi ux8, oi ux9, oi ux10, oi kk, oi bp, oa sa_14, oa b22, oa b59, .val qj, oa ea, oi nj, oa sr] [(.int 5), (.int nj), (.ref ea), (.ref sr)])) rfl (by rw [hml]; rfl) (argsL := [(.ref sr), (.ref ea), (.int nj), (.int 5)]) (rest := []) (lenOf pd48 rfl) rfl (Nat.le_of_eq rfl) (hb hby at_418) (fun _ _ => ⟨rfl, e563, (by decide : 60 + 0 ≤ _), (by decide : 2400 + 0 ≤ _)⟩)
  dsimp only [Pt.U, Pt.locs, Pt.cells, Pt.slots] at X564 l564 y564 z564 st564 hQ564
  subst l564 y564 z564
  obtain ⟨rfl, N564q, e564⟩ := hQ564
  have N564 := Fr.app N563 N564q
  obtain ⟨_, _, ⟨T565, L565, k565, n565⟩, -, X565, ⟨Lc565, hQ565, l565, y565, z565⟩, st565⟩ := Jvm.LawKit.callS X564 hx (y := oM52) hown (mvT hZ (ow hw 181 rfl)) (mvT hZ (ow hw 182 rfl)) (mvT hZ (ow hw 183 rfl)) (mvT hZ (ow hw 184 rfl)) (by decide) (backOf (W := 0) (rm34 l Z a0 hw [] sr ea nj (6 : Int32) vbj kbj kcj nbj vsj usj ke [(.int ux4), (.int 58), (.int 47), (.int 47), (.int ux5), (.int ux6), (.int ux7), (.int ux8), (.int 63), (.int ux9), (.int ux10)] cs fm Tj.heap n0 Zj fj0 fj1 fj2 fj3 hej Vj (by decide) (by decide) (haj _ (by decide) (by decide)) Cs hcs Oj Fm hfm Ua Uh Ul) hZ (ow hw 184 rfl) (ow hw 183 rfl) (by decide) (by decide)) (g := (mkF m 432 #[oi p0, oi p1, oi p2, oi p3, oi ux4, oi ux5, oi ux6, oi ux7, oi ux8, oi ux9, oi ux10, oi kk, oi bp, oa sa_14, oa b22, oa b59, .val qj, oa ea, oi nj, oa sr] [(.int 6), (.int nj), (.ref ea), (.ref sr)])) rfl (by rw [hml]; rfl) (argsL := [(.ref sr), (.ref ea), (.int nj), (.int 6)]) (rest := []) (lenOf pd48 rfl) rfl (Nat.le_of_eq rfl) (hb hby at_432) (fun _ _ => ⟨rfl, e564, (by decide : 60 + 0 ≤ _), (by decide : 2400 + 0 ≤ _)⟩)
  dsimp only [Pt.U, Pt.locs, Pt.cells, Pt.slots] at X565 l565 y565 z565 st565 hQ565
  subst l565 y565 z565
  obtain ⟨rfl, N565q, e565⟩ := hQ565
  have N565 := Fr.app N564 N565q
  obtain ⟨_, _, ⟨T566, L566, k566, n566⟩, -, X566, ⟨Lc566, hQ566, l566, y566, z566⟩, st566⟩ := Jvm.LawKit.callS X565 hx (y := oM52) hown (mvT hZ (ow hw 181 rfl)) (mvT hZ (ow hw 182 rfl)) (mvT hZ (ow hw 183 rfl)) (mvT hZ (ow hw 184 rfl)) (by decide) (backOf (W := 0) (rm34 l Z a0 hw [] sr ea nj (7 : Int32) vbj kbj kcj nbj vsj usj ke [(.int ux4), (.int 58), (.int 47), (.int 47), (.int ux5), (.int ux6), (.int ux7), (.int ux8), (.int 63), (.int ux9), (.int ux10)] cs fm Tj.heap n0 Zj fj0 fj1 fj2 fj3 hej Vj (by decide) (by decide) (haj _ (by decide) (by decide)) Cs hcs Oj Fm hfm Ua Uh Ul) hZ (ow hw 184 rfl) (ow hw 183 rfl) (by decide) (by decide)) (g := (mkF m 446 #[oi p0, oi p1, oi p2, oi p3, oi ux4, oi ux5, oi ux6, oi ux7, oi ux8, oi ux9, oi ux10, oi kk, oi bp, oa sa_14, oa b22, oa b59, .val qj, oa ea, oi nj, oa sr] [(.int 7), (.int nj), (.ref ea), (.ref sr)])) rfl (by rw [hml]; rfl) (argsL := [(.ref sr), (.ref ea), (.int nj), (.int 7)]) (rest := []) (lenOf pd48 rfl) rfl (Nat.le_of_eq rfl) (hb hby at_446) (fun _ _ => ⟨rfl, e565, (by decide : 60 + 0 ≤ _), (by decide : 2400 + 0 ≤ _)⟩)
  dsimp only [Pt.U, Pt.locs, Pt.cells, Pt.slots] at X566 l566 y566 z566 st566 hQ566
  subst l566 y566 z566
  obtain ⟨rfl, N566q, e566⟩ := hQ566
  have N566 := Fr.app N565 N566q
  obtain ⟨_, _, ⟨T567, L567, k567, n567⟩, -, X567, ⟨Lc567, hQ567, l567, y567, z567⟩, st567⟩ := Jvm.LawKit.callS X566 hx (y := oM52) hown (mvT hZ (ow hw 181 rfl)) (mvT hZ (ow hw 182 rfl)) (mvT hZ (ow hw 183 rfl)) (mvT hZ (ow hw 184 rfl)) (by decide) (backOf (W := 0) (rm34 l Z a0 hw [] sr ea nj (8 : Int32) vbj kbj kcj nbj vsj usj ke [(.int ux4), (.int 58), (.int 47), (.int 47), (.int ux5), (.int ux6), (.int ux7), (.int ux8), (.int 63), (.int ux9), (.int ux10)] cs fm Tj.heap n0 Zj fj0 fj1 fj2 fj3 hej Vj (by decide) (by decide) (haj _ (by decide) (by decide)) Cs hcs Oj Fm hfm Ua Uh Ul) hZ (ow hw 184 rfl) (ow hw 183 rfl) (by decide) (by decide)) (g := (mkF m 460 #[oi p0, oi p1, oi p2, oi p3, oi ux4, oi ux5, oi ux6, oi ux7, oi ux8, oi ux9, oi ux10, oi kk, oi bp, oa sa_14, oa b22, oa b59, .val qj, oa ea, oi nj, oa sr] [(.int 8), (.int nj), (.ref ea), (.ref sr)])) rfl (by rw [hml]; rfl) (argsL := [(.ref sr), (.ref ea), (.int nj), (.int 8)]) (rest := []) (lenOf pd48 rfl) rfl (Nat.le_of_eq rfl) (hb hby at_460) (fun _ _ => ⟨rfl, e566, (by decide : 60 + 0 ≤ _), (by decide : 2400 + 0 ≤ _)⟩)
  dsimp only [Pt.U, Pt.locs, Pt.cells, Pt.slots] at X567 l567 y567 z567 st567 hQ567
  subst l567 y567 z567
  obtain ⟨rfl, N567q, e567⟩ := hQ567
  have N567 := Fr.app N566 N567q
  obtain ⟨_, _, ⟨T568, L568, k568, n568⟩, -, X568, ⟨Lc568, hQ568, l568, y568, z568⟩, st568⟩ := Jvm.LawKit.callS X567 hx (y := oM52) hown (mvT hZ (ow hw 181 rfl)) (mvT hZ (ow hw 182 rfl)) (mvT hZ (ow hw 183 rfl)) (mvT hZ (ow hw 184 rfl)) (by decide) (backOf (W := 0) (rm34 l Z a0 hw [] sr ea nj (9 : Int32) vbj kbj kcj nbj vsj usj ke [(.int ux4), (.int 58), (.int 47), (.int 47), (.int ux5), (.int ux6), (.int ux7), (.int ux8), (.int 63), (.int ux9), (.int ux10)] cs fm Tj.heap n0 Zj fj0 fj1 fj2 fj3 hej Vj (by decide) (by decide) (haj _ (by decide) (by decide)) Cs hcs Oj Fm hfm Ua Uh Ul) hZ (ow hw 184 rfl) (ow hw 183 rfl) (by decide) (by decide)) (g := (mkF m 474 #[oi p0, oi p1, oi p2, oi p3, oi ux4, oi ux5, oi ux6, oi ux7, oi ux8, oi ux9, oi ux10, oi kk, oi bp, oa sa_14, oa b22, oa b59, .val qj, oa ea, oi nj, oa sr] [(.int 9), (.int nj), (.ref ea), (.ref sr)])) rfl (by rw [hml]; rfl) (argsL := [(.ref sr), (.ref ea), (.int nj), (.int 9)]) (rest := []) (lenOf pd48 rfl) rfl (Nat.le_of_eq rfl) (hb hby at_474) (fun _ _ => ⟨rfl, e567, (by decide : 60 + 0 ≤ _), (by decide : 2400 + 0 ≤ _)⟩)
  dsimp only [Pt.U, Pt.locs, Pt.cells, Pt.slots] at X568 l568 y568 z568 st568 hQ568
  subst l568 y568 z568
  obtain ⟨rfl, N568q, e568⟩ := hQ568
  have N568 := Fr.app N567 N568q
  obtain ⟨_, _, ⟨T569, L569, k569, n569⟩, -, X569, ⟨Lc569, hQ569, l569, y569, z569⟩, st569⟩ := Jvm.LawKit.callS X568 hx (y := oM52) hown (mvT hZ (ow hw 181 rfl)) (mvT hZ (ow hw 182 rfl)) (mvT hZ (ow hw 183 rfl)) (mvT hZ (ow hw 184 rfl)) (by decide) (backOf (W := 0) (rm34 l Z a0 hw [] sr ea nj (10 : Int32) vbj kbj kcj nbj vsj usj ke [(.int ux4), (.int 58), (.int 47), (.int 47), (.int ux5), (.int ux6), (.int ux7), (.int ux8), (.int 63), (.int ux9), (.int ux10)] cs fm Tj.heap n0 Zj fj0 fj1 fj2 fj3 hej Vj (by decide) (by decide) (haj _ (by decide) (by decide)) Cs hcs Oj Fm hfm Ua Uh Ul) hZ (ow hw 184 rfl) (ow hw 183 rfl) (by decide) (by decide)) (g := (mkF m 488 #[oi p0, oi p1, oi p2, oi p3, oi ux4, oi ux5, oi ux6, oi ux7, oi ux8, oi ux9, oi ux10, oi kk, oi bp, oa sa_14, oa b22, oa b59, .val qj, oa ea, oi nj, oa sr] [(.int 10), (.int nj), (.ref ea), (.ref sr)])) rfl (by rw [hml]; rfl) (argsL := [(.ref sr), (.ref ea), (.int nj), (.int 10)]) (rest := []) (lenOf pd48 rfl) rfl (Nat.le_of_eq rfl) (hb hby at_488) (fun _ _ => ⟨rfl, e568, (by decide : 60 + 0 ≤ _), (by decide : 2400 + 0 ≤ _)⟩)
  dsimp only [Pt.U, Pt.locs, Pt.cells, Pt.slots] at X569 l569 y569 z569 st569 hQ569
  subst l569 y569 z569
  obtain ⟨rfl, N569q, e569⟩ := hQ569
  have N569 := Fr.app N568 N569q
  obtain ⟨fsZ, hrZ, hrun, hended, hRE⟩ := X569.leaveW hSj (by rw [e569]; exact hkj) (v := some (.int 1)) (fun h => by rw [Bd.returns] at h; cases h)
  refine ⟨_, _, prej _ ?_, hrun, hended, _, _, rfl, ?_, hRE.1, hRE.2.1, hRE.2.2.1, hRE.2.2.2.mono (by decide) (by decide)⟩
  · show Steps _ _ _ (Tj.setTop (mkF m 327 #[oi p0, oi p1, oi p2, oi p3, oi ux4, oi ux5, oi ux6, oi ux7, oi ux8, oi ux9, oi ux10, oi kk, oi bp, oa sa_14, oa b22, oa b59, .val qj, oa ea, oi nj, .unset] [(.ref sr)])) _
    refine XS.astore Xj.here hx rfl (hb hby at_327) rfl rfl (l' := #[oi p0, oi p1, oi p2, oi p3, oi ux4, oi ux5, oi ux6, oi ux7, oi ux8, oi ux9, oi ux10, oi kk, oi bp, oa sa_14, oa b22, oa b59, .val qj, oa ea, oi nj, oa sr]) rfl ?_
    refine XS.aload Xj.here hx rfl (hb hby at_329) rfl rfl ?_
    refine XS.ifnullNo Xj.here hx rfl (hb hby at_331) rfl ?_
    refine XS.aload Xj.here hx rfl (hb hby at_334) rfl rfl ?_
    refine st558.trans ?_
    refine XS.iload X558.here hx rfl (hb hby at_339) rfl  ?_
    refine XS.icmpYes X558.here hx rfl (pc0 := 341) (pc' := 346) rfl (hb hby at_341) rfl (teq rfl).1 (by decide) (by decide) ?_
    refine XS.aload X558.here hx rfl (hb hby at_346) rfl rfl ?_
    show Steps _ _ _ (T558.setTop (mkF m 348 #[oi p0, oi p1, oi p2, oi p3, oi ux4, oi ux5, oi ux6, oi ux7, oi ux8, oi ux9, oi ux10, oi kk, oi bp, oa sa_14, oa b22, oa b59, .val qj, oa ea, oi nj, oa sr] [(.ref sr)])) _
    refine XS.aload X558.here hx rfl (hb hby at_348) rfl rfl ?_
    refine XS.iload X558.here hx rfl (hb hby at_350) rfl  ?_
    refine XS.iconst X558.here hx rfl (hb hby at_352) ?_
    refine st559 _ ?_
    refine XS.ifNo X559.here hx rfl (hb hby at_356) rfl ((if0 _ _).trans (feq (by decide)).1) ?_
    refine XS.aload X559.here hx rfl (hb hby at_359) rfl rfl ?_
    refine XS.aload X559.here hx rfl (hb hby at_361) rfl rfl ?_
    refine XS.iload X559.here hx rfl (hb hby at_363) rfl  ?_
    show Steps _ _ _ (T559.setTop (mkF m 365 #[oi p0, oi p1, oi p2, oi p3, oi ux4, oi ux5, oi ux6, oi ux7, oi ux8, oi ux9, oi ux10, oi kk, oi bp, oa sa_14, oa b22, oa b59, .val qj, oa ea, oi nj, oa sr] [(.int nj), (.ref ea), (.ref sr)])) _
    refine XS.iconst X559.here hx rfl (hb hby at_365) ?_
    refine st560 _ ?_
    refine XS.ifNo X560.here hx rfl (hb hby at_369) rfl ((if0 _ _).trans (feq (by decide)).1) ?_
    refine XS.aload X560.here hx rfl (hb hby at_372) rfl rfl ?_
    refine XS.aload X560.here hx rfl (hb hby at_374) rfl rfl ?_
    refine XS.iload X560.here hx rfl (hb hby at_376) rfl  ?_
    refine XS.iconst X560.here hx rfl (hb hby at_378) ?_
    refine st561 _ ?_
    show Steps _ _ _ (T561.setTop (mkF m 382 #[oi p0, oi p1, oi p2, oi p3, oi ux4, oi ux5, oi ux6, oi ux7, oi ux8, oi ux9, oi ux10, oi kk, oi bp, oa sa_14, oa b22, oa b59, .val qj, oa ea, oi nj, oa sr] [(.int 1)])) _
    refine XS.ifNo X561.here hx rfl (hb hby at_382) rfl ((if0 _ _).trans (feq (by decide)).1) ?_
    refine XS.aload X561.here hx rfl (hb hby at_385) rfl rfl ?_
    refine XS.aload X561.here hx rfl (hb hby at_387) rfl rfl ?_
    refine XS.iload X561.here hx rfl (hb hby at_389) rfl  ?_
    refine XS.iconst X561.here hx rfl (hb hby at_391) ?_
    refine st562 _ ?_
    refine XS.ifNo X562.here hx rfl (hb hby at_395) rfl ((if0 _ _).trans (feq (by decide)).1) ?_
    refine XS.aload X562.here hx rfl (hb hby at_398) rfl rfl ?_
    show Steps _ _ _ (T562.setTop (mkF m 400 #[oi p0, oi p1, oi p2, oi p3, oi ux4, oi ux5, oi ux6, oi ux7, oi ux8, oi ux9, oi ux10, oi kk, oi bp, oa sa_14, oa b22, oa b59, .val qj, oa ea, oi nj, oa sr] [(.ref sr)])) _
    refine XS.aload X562.here hx rfl (hb hby at_400) rfl rfl ?_
    refine XS.iload X562.here hx rfl (hb hby at_402) rfl  ?_
    refine XS.iconst X562.here hx rfl (hb hby at_404) ?_
    refine st563 _ ?_
    refine XS.ifNo X563.here hx rfl (hb hby at_408) rfl ((if0 _ _).trans (feq (by decide)).1) ?_
    refine XS.aload X563.here hx rfl (hb hby at_411) rfl rfl ?_
    refine XS.aload X563.here hx rfl (hb hby at_413) rfl rfl ?_
    refine XS.iload X563.here hx rfl (hb hby at_415) rfl  ?_
    show Steps _ _ _ (T563.setTop (mkF m 417 #[oi p0, oi p1, oi p2, oi p3, oi ux4, oi ux5, oi ux6, oi ux7, oi ux8, oi ux9, oi ux10, oi kk, oi bp, oa sa_14, oa b22, oa b59, .val qj, oa ea, oi nj, oa sr] [(.int nj), (.ref ea), (.ref sr)])) _
    refine XS.iconst X563.here hx rfl (hb hby at_417) ?_
    refine st564 _ ?_
    refine XS.ifNo X564.here hx rfl (hb hby at_421) rfl ((if0 _ _).trans (feq (by decide)).1) ?_
    refine XS.aload X564.here hx rfl (hb hby at_424) rfl rfl ?_
    refine XS.aload X564.here hx rfl (hb hby at_426) rfl rfl ?_
    refine XS.iload X564.here hx rfl (hb hby at_428) rfl  ?_
    refine XS.bipush X564.here hx rfl (hb hby at_430) ?_
    refine st565 _ ?_
    show Steps _ _ _ (T565.setTop (mkF m 435 #[oi p0, oi p1, oi p2, oi p3, oi ux4, oi ux5, oi ux6, oi ux7, oi ux8, oi ux9, oi ux10, oi kk, oi bp, oa sa_14, oa b22, oa b59, .val qj, oa ea, oi nj, oa sr] [(.int 1)])) _
    refine XS.ifNo X565.here hx rfl (hb hby at_435) rfl ((if0 _ _).trans (feq (by decide)).1) ?_
    refine XS.aload X565.here hx rfl (hb hby at_438) rfl rfl ?_
    refine XS.aload X565.here hx rfl (hb hby at_440) rfl rfl ?_
    refine XS.iload X565.here hx rfl (hb hby at_442) rfl  ?_
    refine XS.bipush X565.here hx rfl (hb hby at_444) ?_
    refine st566 _ ?_
    refine XS.ifNo X566.here hx rfl (hb hby at_449) rfl ((if0 _ _).trans (feq (by decide)).1) ?_
    refine XS.aload X566.here hx rfl (hb hby at_452) rfl rfl ?_
    show Steps _ _ _ (T566.setTop (mkF m 454 #[oi p0, oi p1, oi p2, oi p3, oi ux4, oi ux5, oi ux6, oi ux7, oi ux8, oi ux9, oi ux10, oi kk, oi bp, oa sa_14, oa b22, oa b59, .val qj, oa ea, oi nj, oa sr] [(.ref sr)])) _
    refine XS.aload X566.here hx rfl (hb hby at_454) rfl rfl ?_
    refine XS.iload X566.here hx rfl (hb hby at_456) rfl  ?_
    refine XS.bipush X566.here hx rfl (hb hby at_458) ?_
    refine st567 _ ?_
    refine XS.ifNo X567.here hx rfl (hb hby at_463) rfl ((if0 _ _).trans (feq (by decide)).1) ?_
    refine XS.aload X567.here hx rfl (hb hby at_466) rfl rfl ?_
    refine XS.aload X567.here hx rfl (hb hby at_468) rfl rfl ?_
    refine XS.iload X567.here hx rfl (hb hby at_470) rfl  ?_
    show Steps _ _ _ (T567.setTop (mkF m 472 #[oi p0, oi p1, oi p2, oi p3, oi ux4, oi ux5, oi ux6, oi ux7, oi ux8, oi ux9, oi ux10, oi kk, oi bp, oa sa_14, oa b22, oa b59, .val qj, oa ea, oi nj, oa sr] [(.int nj), (.ref ea), (.ref sr)])) _
    refine XS.bipush X567.here hx rfl (hb hby at_472) ?_
    refine st568 _ ?_
    refine XS.ifNo X568.here hx rfl (hb hby at_477) rfl ((if0 _ _).trans (feq (by decide)).1) ?_
    refine XS.aload X568.here hx rfl (hb hby at_480) rfl rfl ?_
    refine XS.aload X568.here hx rfl (hb hby at_482) rfl rfl ?_
    refine XS.iload X568.here hx rfl (hb hby at_484) rfl  ?_
    refine XS.bipush X568.here hx rfl (hb hby at_486) ?_
    refine st569 _ ?_
    show Steps _ _ _ (T569.setTop (mkF m 491 #[oi p0, oi p1, oi p2, oi p3, oi ux4, oi ux5, oi ux6, oi ux7, oi ux8, oi ux9, oi ux10, oi kk, oi bp, oa sa_14, oa b22, oa b59, .val qj, oa ea, oi nj, oa sr] [(.int 1)])) _
    refine XS.ifNo X569.here hx rfl (hb hby at_491) rfl ((if0 _ _).trans (feq (by decide)).1) ?_
    refine XS.iconst X569.here hx rfl (hb hby at_494) ?_
    refine XS.goto X569.here hx rfl (pc0 := 495) (pc' := 499) rfl (hb hby at_495) (by decide) (by decide) ?_
    show Steps _ _ _ (T569.setTop (mkF m 499 #[oi p0, oi p1, oi p2, oi p3, oi ux4, oi ux5, oi ux6, oi ux7, oi ux8, oi ux9, oi ux10, oi kk, oi bp, oa sa_14, oa b22, oa b59, .val qj, oa ea, oi nj, oa sr] [(.int 1)])) _
    exact retN X569 hx (t := .boolean) Bd.returns (by simp) (hb hby at_499) hrZ
  · show Q0 Z p0 p1 p2 p3 cs fm h0 n0 _ T569.heap _
    rw [e569]
    exact ⟨rfl, N569⟩
theorem comes_1 {Post : Tables → Env → Array Value → State → Outcome → State → Prop} (hpost : ∀ tb e args s v u, (limb_1_1.after args s (.returned v) u = true ∧ limb_1_2.after args s (.returned v) u = true ∧ True) → ReturnedEndW s (.returned v) u (Jvm.fieldLocs frame_1_writes args s ++ Jvm.arrayLocs frame_1_arrays args s ++ Jvm.staticLocs frame_1_statics s) 72 3584 → Post tb e args s (.returned v) u) :
    ArmFor flags0 classFile x code maxLocals ret World_1 tables_1 room_1 Calls_1 rest_1 Pre_1 Post := by
  intro l hfl _ _ p e ha hc hk s m args below hf hA hF happ hP
  obtain ⟨hcalls, hrest, hpre⟩ := hP
  obtain ⟨-, -, -, hnamed, -, -, -, hat⟩ := (Spec.applies_iff hf).mp happ
  obtain ⟨hg, hn⟩ := and_e (Cond.before_iff.mp (show (Jvm.Cond.and given_1 narrow_1).before args s = true from hpre))
  obtain ⟨g1, g2⟩ := and_e hg
  obtain ⟨g3, g4⟩ := and_e g2
  obtain ⟨g5, g6⟩ := and_e g4
  obtain ⟨g7, g8⟩ := and_e g6
  obtain ⟨w0, w1, w2, w3, rfl⟩ : ∃ w0 w1 w2 w3 : Value, args = #[w0, w1, w2, w3] := by
    have hs : args.size = 4 := by simpa [Cond.value, given_1] using g1
    obtain ⟨L⟩ := args
    match L, hs with
    | [w0, w1, w2, w3], _ => exact ⟨w0, w1, w2, w3, rfl⟩
  have hw := fun d (hd : d ∈ tables_1) => atoms_spec (ws := Jvm.Cond.code x code maxLocals ret :: tables_1) hat d (List.mem_cons_of_mem _ hd)
  have hfit : Fit s := fun {y c} hc i hi => by
    obtain ⟨ha, rfl⟩ := Array.getElem?_eq_some_iff.mp hc
    have q := List.all_eq_true.mp ((Array.all_eq_true_iff_forall_mem.mp hF) _ (Array.getElem_mem ha)) i (List.mem_range.mpr hi)
    simpa [Array.getElem?_eq_getElem hi] using q
  obtain ⟨hsets, hown0⟩ := atoms_of _ (rest_1_c_eq ▸ (show rest_1_c.before _ s = true from hrest))
  have hr0 := Cond.before_iff.mp hown0
  obtain ⟨i0, ei0⟩ := is_v g3
  obtain rfl : w0 = (.int i0) := Option.some.inj ei0
  obtain ⟨i1, ei1⟩ := is_v g5
  obtain rfl : w1 = (.int i1) := Option.some.inj ei1
  obtain ⟨i2, ei2⟩ := is_v g7
  obtain rfl : w2 = (.int i2) := Option.some.inj ei2
  obtain ⟨i3, ei3⟩ := is_v g8
  obtain rfl : w3 = (.int i3) := Option.some.inj ei3
  obtain ⟨cs, ecs⟩ := is_v (Cond.before_iff.mp (hsets _ (List.mem_of_getElem? (i := 1) rfl)))
  have hcw : Jvm.Lit.compactW.before _ s = true := (hsets _ (List.mem_of_getElem? (i := 2) rfl))
  have hcs := own_cs hcw ecs
  have Cs := Sta.start ecs (Or.inl (hsets _ (List.mem_of_getElem? (i := 0) rfl)))
  obtain ⟨fm, efm, hfm⟩ := Cond.isRef_spec (hsets _ (List.mem_of_getElem? (i := 8) rfl))
  have Fm := Sta.start efm (Or.inl (hsets _ (List.mem_of_getElem? (i := 7) rfl)))
  have Ua := Sta.start (own_eqI (Cond.before_iff.mp (hsets _ (List.mem_of_getElem? (i := 12) rfl)))) (Or.inl (hsets _ (List.mem_of_getElem? (i := 11) rfl)))
  have Uh := Sta.start (own_eqI (Cond.before_iff.mp (hsets _ (List.mem_of_getElem? (i := 15) rfl)))) (Or.inl (hsets _ (List.mem_of_getElem? (i := 14) rfl)))
  have Ul := Sta.start (own_eqI (Cond.before_iff.mp (hsets _ (List.mem_of_getElem? (i := 18) rfl)))) (Or.inl (hsets _ (List.mem_of_getElem? (i := 17) rfl)))
  have hch : ∀ p ∈ own_EL, Jvm.Lit.constHeld s p.1 p.2 := fun p hp => hcalls.1 p hp
  obtain ⟨n, o, h1, h2, h3, _, L, rfl, ⟨rfl, N⟩, hq⟩ := rm0 l s _ hw tables_1 i0 i1 i2 i3 cs fm s.heap s.heap.size (Nat.le_refl _) Cs hcs (Old.start s) Fm hfm Ua Uh Ul hch hcw p e ha hc hk s m _ below hf ((Spec.applies_iff_loose hf).mp happ).1 ⟨rfl, State.Warmed39.refl s, rfl, rfl⟩ trivial
  refine ⟨n, _, h1, h2, h3, hpost _ _ _ _ _ _ ⟨Cond.after_iff.mpr rfl, Cond.after_iff.mpr (eq_i res_at (Term.int_eval (1)) rfl), trivial⟩ ⟨hq.1, hq.2.1, hq.2.2.1, (hq.2.2.2.sift fun y hy => Or.inr (N y hy)).mono (by decide) (by decide)⟩⟩
theorem main_1_1 : Claimed_1_1 := comes_1 fun _ _ _ _ _ _ h hF => ⟨h.1, hF⟩
theorem main_1_2 : Claimed_1_2 := comes_1 fun _ _ _ _ _ _ h hF => ⟨h.2.1, hF⟩
end Jvm.Pilot.@@N@@
namespace Jvm.Pilot.@@N@@
open Jvm Jvm.ClassFile Sem Op Lib Jvm.Free Jvm.Stand Jvm.Pilot.@@N@@.Jvm.D
/-! MADE BY PROGRAM (witnessworld.py) out of the Statement's table words and the real class files: 26 classes; the members and pool entries that the words name. The judged class is class 1, her method 1. -/
namespace start1
open Jvm.ClassFile
def u (s : String) : CpInfo := .utf8 (stringToUtf16 s)
/-- a pool by its gaps: so many unusable entries, then the entry; so many at the end -/
def gap : Nat → List CpInfo → List CpInfo
  | 0, r => r
  | n + 1, r => .unusable :: gap n r
def poolList (es : List (Nat × CpInfo)) (last : Nat) : List CpInfo := es.foldr (fun e r => gap e.1 (e.2 :: r)) (gap last [])
def pool (es : List (Nat × CpInfo)) (last : Nat) : Array CpInfo := ⟨poolList es last⟩
def fileOf (pool : Array CpInfo) (this : Nat) (attrs : Array Attribute := #[]) (ms : Array MethodInfo := #[]) (fl : Nat := 33) (sup : Nat := 0) (ifs : Array Nat := #[]) (fds : Array FieldInfo := #[]) : ClassFile where
  minorVersion := 0
  majorVersion := 65
  constantPool := pool
  accessFlags := fl
  thisClass := this
  superClass := sup
  interfaces := ifs
  fields := fds
  methods := ms
  attributes := attrs
def plain (name : String) (sup : Option ClassId) : Class where
  name := name
  kind := .ordinary
  loader := none
  accessFlags := 33
  super := sup
  interfaces := #[]
  cf := none
  fields := #[]
  methods := #[]
  instanceTypes := #[]
  staticTypes := #[]
  resolved := #[]
  callSites := []
  init := .initialized
  statics := none
  mirror := none

def pool0 : Array CpInfo := pool [(5, u "<init>"), (0, u "()V"), (1, .class_ 10), (1, u "java/lang/Object")] 113

def k0c0 : Code := { maxStack := 0, maxLocals := 1, code := object_method_1_code, exceptionTable := #[], attributes := #[] }
def k0m0 : Method := { name := "<init>", desc := "()V", sig := { parameters := [], returnType := none }, accessFlags := 1, code := some k0c0 }
/-- java/lang/Object -/
def k0 : Class := { plain "java/lang/Object" none with
  accessFlags := 33
  interfaces := #[]
  cf := some (fileOf pool0 8 #[] #[{ accessFlags := 1, nameIndex := 5, descriptorIndex := 6, attributes := #[] }] 33 0 #[] #[])
  fields := #[]
  methods := #[k0m0]
  instanceTypes := #[]
  staticTypes := #[]
  resolved := Array.replicate 124 none
  statics := none }

def pool1 : Array CpInfo := pool [(2, .class_ 4), (1, u "java/lang/Object"), (0, u "<init>"), (0, u "()V"), (0, .integer 65535), (0, .methodref 9 10), (0, .class_ 11), (0, .nameAndType 12 13), (0, u "java/lang/String"), (0, u "valueOf"), (0, u "(C)Ljava/lang/String;"), (0, .methodref 9 15), (0, .nameAndType 5 16), (0, u "([C)V"), (0, .class_ 18), (0, u "com/example/hash4/hash4/canonical/CanonicalUrl"), (0, .methodref 17 20), (0, .nameAndType 5 21), (0, u "(Ljava/lang/String;Ljava/lang/String;ZLjava/lang/String;Ljava/lang/String;)V"), (0, .methodref 17 23), (0, .nameAndType 24 25), (0, u "toString"), (0, u "()Ljava/lang/String;"), (0, .methodref 9 27), (0, .nameAndType 28 29), (0, u "length"), (0, u "()I"), (0, .methodref 31 32), (0, .class_ 33), (0, .nameAndType 34 35), (0, u "com/example/hash4/hash4/canonical/CanonicalUrlToStringPinLaw"), (0, u "at"), (0, u "(Ljava/lang/String;[CII)Z"), (0, .methodref 9 37), (0, .nameAndType 38 39), (0, u "charAt"), (0, u "(I)C"), (2, u "law"), (0, u "(IIII)Z")] 5

def k1m0 : Method := { name := "<init>", desc := "()V", sig := { parameters := [], returnType := none }, accessFlags := 1, code := none }
def k1c1 : Code := { maxStack := 7, maxLocals := 20, code := code, exceptionTable := #[], attributes := #[] }
def k1m1 : Method := { name := "law", desc := "(IIII)Z", sig := { parameters := [.int, .int, .int, .int], returnType := some .boolean }, accessFlags := 9, code := some k1c1 }
def k1c2 : Code := { maxStack := 3, maxLocals := 4, code := method_3_code, exceptionTable := #[], attributes := #[] }
def k1m2 : Method := { name := "at", desc := "(Ljava/lang/String;[CII)Z", sig := { parameters := [(.object "java/lang/String"), (.array .char), .int, .int], returnType := some .boolean }, accessFlags := 10, code := some k1c2 }
/-- com/example/hash4/hash4/canonical/CanonicalUrlToStringPinLaw -/
def k1 : Class := { plain "com/example/hash4/hash4/canonical/CanonicalUrlToStringPinLaw" (some 0) with
  accessFlags := 49
  interfaces := #[]
  cf := some (fileOf pool1 31 #[] #[{ accessFlags := 1, nameIndex := 5, descriptorIndex := 6, attributes := #[] }, { accessFlags := 9, nameIndex := 42, descriptorIndex := 43, attributes := #[] }, { accessFlags := 10, nameIndex := 34, descriptorIndex := 35, attributes := #[] }] 49 2 #[] #[])
  fields := #[]
  methods := #[k1m0, k1m1, k1m2]
  instanceTypes := #[]
  staticTypes := #[]
  resolved := Array.replicate 49 none
  statics := none }

def pool2 : Array CpInfo := pool [(1, .class_ 2), (0, u "java/io/Serializable"), (0, .class_ 4), (0, u "java/lang/Object")] 2

/-- java/io/Serializable -/
def k2 : Class := { plain "java/io/Serializable" (some 0) with
  accessFlags := 1537
  interfaces := #[]
  cf := some (fileOf pool2 1 #[] #[] 1537 3 #[] #[])
  fields := #[]
  methods := #[]
  instanceTypes := #[]
  staticTypes := #[]
  resolved := Array.replicate 7 none
  statics := none }

def pool3 : Array CpInfo := pool [(1, .class_ 2), (0, u "java/lang/Comparable"), (0, .class_ 4), (0, u "java/lang/Object")] 7

/-- java/lang/Comparable -/
def k3 : Class := { plain "java/lang/Comparable" (some 0) with
  accessFlags := 1537
  interfaces := #[]
  cf := some (fileOf pool3 1 #[] #[] 1537 3 #[] #[])
  fields := #[]
  methods := #[]
  instanceTypes := #[]
  staticTypes := #[]
  resolved := Array.replicate 12 none
  statics := none }

def pool4 : Array CpInfo := pool [(2, .class_ 4), (1, u "java/lang/CharSequence"), (42, .class_ 48), (0, u "java/lang/CharSequence$1CodePointIterator"), (10, .class_ 60), (0, u "java/lang/CharSequence$1CharIterator"), (5, .class_ 67), (0, u "java/lang/Object")] 63

/-- java/lang/CharSequence -/
def k4 : Class := { plain "java/lang/CharSequence" (some 0) with
  accessFlags := 1537
  interfaces := #[]
  cf := some (fileOf pool4 2 #[.nestMembers #[47, 59]] #[] 1537 66 #[] #[])
  fields := #[]
  methods := #[]
  instanceTypes := #[]
  staticTypes := #[]
  resolved := Array.replicate 131 none
  statics := none }

def pool5 : Array CpInfo := pool [(1, .class_ 2), (0, u "java/lang/constant/Constable"), (0, .class_ 4), (0, u "java/lang/Object")] 6

/-- java/lang/constant/Constable -/
def k5 : Class := { plain "java/lang/constant/Constable" (some 0) with
  accessFlags := 1537
  interfaces := #[]
  cf := some (fileOf pool5 1 #[] #[] 1537 3 #[] #[])
  fields := #[]
  methods := #[]
  instanceTypes := #[]
  staticTypes := #[]
  resolved := Array.replicate 11 none
  statics := none }

def pool6 : Array CpInfo := pool [(1, .class_ 2), (0, u "java/lang/constant/ConstantDesc"), (0, .class_ 4), (0, u "java/lang/Object")] 32

/-- java/lang/constant/ConstantDesc -/
def k6 : Class := { plain "java/lang/constant/ConstantDesc" (some 0) with
  accessFlags := 1537
  interfaces := #[]
  cf := some (fileOf pool6 1 #[] #[] 1537 3 #[] #[])
  fields := #[]
  methods := #[]
  instanceTypes := #[]
  staticTypes := #[]
  resolved := Array.replicate 37 none
  statics := none }

def pool7 : Array CpInfo := pool [(1, .methodref 2 3), (0, .class_ 4), (0, .nameAndType 5 6), (0, u "java/lang/Object"), (0, u "<init>"), (0, u "()V"), (0, .string 8), (0, u ""), (0, .fieldref 10 11), (0, .class_ 12), (0, .nameAndType 13 14), (0, u "java/lang/String"), (0, u "value"), (0, u "[B"), (0, .fieldref 10 16), (0, .nameAndType 17 18), (0, u "coder"), (0, u "B"), (2, u "hash"), (0, u "I"), (2, u "hashIsZero"), (0, u "Z"), (0, .methodref 10 28), (0, .nameAndType 5 29), (0, u "([CIILjava/lang/Void;)V"), (6, u "checkBoundsOffCount"), (0, u "(III)I"), (0, .fieldref 10 39), (0, .nameAndType 40 26), (0, u "COMPACT_STRINGS"), (1, .class_ 44), (1, u "java/lang/StringUTF16"), (0, u "compress"), (1, .methodref 42 48), (0, .nameAndType 49 50), (0, u "coderFromArrayLen"), (0, u "([BI)B"), (2, u "toBytes"), (0, .methodref 55 56), (0, .class_ 57), (0, .nameAndType 58 59), (0, u "java/util/Arrays"), (0, u "copyOfRange"), (0, u "([BII)[B"), (46, .methodref 107 108), (0, .class_ 109), (0, .nameAndType 110 111), (0, u "java/lang/StringLatin1"), (0, u "inflate"), (0, u "([BI[BII)V"), (30, u "()Z"), (34, .methodref 42 178), (0, .nameAndType 45 179), (0, u "([CII)[B"), (13, .class_ 195), (1, u "java/lang/System"), (13, .methodref 10 210), (0, .nameAndType 5 211), (0, u "([BB)V"), (0, .methodref 193 213), (0, .nameAndType 214 215), (0, u "arraycopy"), (0, u "(Ljava/lang/Object;ILjava/lang/Object;II)V"), (118, u "()I"), (0, .methodref 10 336), (0, .nameAndType 17 337), (0, u "()B"), (2, u "()[B"), (22, u "([BI)C"), (5, u "(C)Z"), (21, u "(II)V"), (35, u "(I)C"), (61, .methodref 10 490), (0, .nameAndType 5 491), (0, u "(Ljava/lang/AbstractStringBuilder;Ljava/lang/Void;)V"), (0, .methodref 10 493), (0, .nameAndType 494 142), (0, u "isLatin1"), (0, .methodref 107 496), (0, .nameAndType 497 363), (0, u "charAt"), (0, .methodref 42 496), (2, u "checkIndex"), (4, .nameAndType 507 334), (0, u "length"), (24, u "getBytes"), (16, .methodref 550 506), (0, .class_ 551), (0, u "java/lang/AbstractStringBuilder"), (0, .methodref 550 553), (0, .nameAndType 554 340), (0, u "getValue"), (20, .class_ 576), (0, u "java/lang/CharSequence"), (22, u "CASE_INSENSITIVE_ORDER"), (0, u "Ljava/util/Comparator;"), (181, u "valueOf"), (0, u "(C)Ljava/lang/String;"), (37, u "([BIB)V"), (188, u "([C)V"), (4, .methodref 107 1016), (0, .nameAndType 1017 369), (0, u "canEncode"), (0, .methodref 107 1019), (0, .nameAndType 53 1020), (0, u "(C)[B"), (0, .methodref 42 1019), (25, .methodref 550 493), (0, .fieldref 550 1049), (0, .nameAndType 1050 26), (0, u "maybeLatin1"), (2, .fieldref 1054 1055), (0, .class_ 1056), (0, .nameAndType 1057 1058), (0, u "jdk/internal/util/Preconditions"), (0, u "SIOOBE_FORMATTER"), (0, u "Ljava/util/function/BiFunction;"), (0, .methodref 1054 1060), (0, .nameAndType 501 1061), (0, u "(IILjava/util/function/BiFunction;)I"), (2, u "(IIILjava/util/function/BiFunction;)I"), (0, .methodref 1054 1066), (0, .nameAndType 1067 1064), (0, u "checkFromIndexSize"), (33, u "serialPersistentFields"), (0, u "[Ljava/io/ObjectStreamField;"), (0, .class_ 1104), (0, u "java/lang/String$CaseInsensitiveComparator"), (1, .class_ 1107), (0, u "java/io/Serializable"), (0, .class_ 1109), (0, u "java/lang/Comparable"), (0, .class_ 1111), (0, u "java/lang/constant/Constable"), (0, .class_ 1113), (0, u "java/lang/constant/ConstantDesc"), (2, u "serialVersionUID"), (0, u "J"), (3, u "REPL"), (0, u "C"), (2, u "LATIN1"), (1, u "UTF16"), (105, u "(Ljava/lang/StringBuilder;)V")] 217

def k7m0 : Method := { name := "<init>", desc := "()V", sig := { parameters := [], returnType := none }, accessFlags := 1, code := none }
def k7c1 : Code := { maxStack := 5, maxLocals := 2, code := jdk_42_method_3_code, exceptionTable := #[], attributes := #[] }
def k7m1 : Method := { name := "<init>", desc := "([C)V", sig := { parameters := [(.array .char)], returnType := none }, accessFlags := 1, code := some k7c1 }
def k7c2 : Code := { maxStack := 3, maxLocals := 2, code := jdk_42_method_53_code, exceptionTable := #[], attributes := #[] }
def k7m2 : Method := { name := "<init>", desc := "(Ljava/lang/StringBuilder;)V", sig := { parameters := [(.object "java/lang/StringBuilder")], returnType := none }, accessFlags := 1, code := some k7c2 }
def k7c3 : Code := { maxStack := 2, maxLocals := 1, code := jdk_42_method_54_code, exceptionTable := #[], attributes := #[] }
def k7m3 : Method := { name := "length", desc := "()I", sig := { parameters := [], returnType := some .int }, accessFlags := 1, code := some k7c3 }
def k7c4 : Code := { maxStack := 2, maxLocals := 2, code := jdk_42_method_56_code, exceptionTable := #[], attributes := #[] }
def k7m4 : Method := { name := "charAt", desc := "(I)C", sig := { parameters := [.int], returnType := some .char }, accessFlags := 1, code := some k7c4 }
def k7c5 : Code := { maxStack := 4, maxLocals := 1, code := jdk_42_method_139_code, exceptionTable := #[], attributes := #[] }
def k7m5 : Method := { name := "valueOf", desc := "(C)Ljava/lang/String;", sig := { parameters := [.char], returnType := some (.object "java/lang/String") }, accessFlags := 9, code := some k7c5 }
def k7c6 : Code := { maxStack := 5, maxLocals := 4, code := jdk_42_method_147_code, exceptionTable := #[], attributes := #[] }
def k7m6 : Method := { name := "getBytes", desc := "([BIB)V", sig := { parameters := [(.array .byte), .int, .byte], returnType := none }, accessFlags := 0, code := some k7c6 }
def k7c7 : Code := { maxStack := 4, maxLocals := 6, code := jdk_42_method_149_code, exceptionTable := #[], attributes := #[] }
def k7m7 : Method := { name := "<init>", desc := "([CIILjava/lang/Void;)V", sig := { parameters := [(.array .char), .int, .int, (.object "java/lang/Void")], returnType := none }, accessFlags := 2, code := some k7c7 }
def k7c8 : Code := { maxStack := 5, maxLocals := 5, code := jdk_42_method_150_code, exceptionTable := #[], attributes := #[] }
def k7m8 : Method := { name := "<init>", desc := "(Ljava/lang/AbstractStringBuilder;Ljava/lang/Void;)V", sig := { parameters := [(.object "java/lang/AbstractStringBuilder"), (.object "java/lang/Void")], returnType := none }, accessFlags := 0, code := some k7c8 }
def k7c9 : Code := { maxStack := 2, maxLocals := 3, code := jdk_42_method_151_code, exceptionTable := #[], attributes := #[] }
def k7m9 : Method := { name := "<init>", desc := "([BB)V", sig := { parameters := [(.array .byte), .byte], returnType := none }, accessFlags := 0, code := some k7c9 }
def k7c10 : Code := { maxStack := 1, maxLocals := 1, code := jdk_42_method_152_code, exceptionTable := #[], attributes := #[] }
def k7m10 : Method := { name := "coder", desc := "()B", sig := { parameters := [], returnType := some .byte }, accessFlags := 0, code := some k7c10 }
def k7c11 : Code := { maxStack := 1, maxLocals := 1, code := jdk_42_method_154_code, exceptionTable := #[], attributes := #[] }
def k7m11 : Method := { name := "isLatin1", desc := "()Z", sig := { parameters := [], returnType := some .boolean }, accessFlags := 0, code := some k7c11 }
def k7c12 : Code := { maxStack := 3, maxLocals := 2, code := jdk_42_method_155_code, exceptionTable := #[], attributes := #[] }
def k7m12 : Method := { name := "checkIndex", desc := "(II)V", sig := { parameters := [.int, .int], returnType := none }, accessFlags := 8, code := some k7c12 }
def k7c13 : Code := { maxStack := 4, maxLocals := 3, code := jdk_42_method_157_code, exceptionTable := #[], attributes := #[] }
def k7m13 : Method := { name := "checkBoundsOffCount", desc := "(III)I", sig := { parameters := [.int, .int, .int], returnType := some .int }, accessFlags := 8, code := some k7c13 }
/-- java/lang/String -/
def k7 : Class := { plain "java/lang/String" (some 0) with
  accessFlags := 49
  interfaces := #[2, 3, 4, 5, 6]
  cf := some (fileOf pool7 10 #[.nestMembers #[1103]] #[{ accessFlags := 1, nameIndex := 5, descriptorIndex := 6, attributes := #[] }, { accessFlags := 1, nameIndex := 5, descriptorIndex := 1010, attributes := #[] }, { accessFlags := 1, nameIndex := 5, descriptorIndex := 1233, attributes := #[] }, { accessFlags := 1, nameIndex := 507, descriptorIndex := 334, attributes := #[] }, { accessFlags := 1, nameIndex := 497, descriptorIndex := 427, attributes := #[] }, { accessFlags := 9, nameIndex := 782, descriptorIndex := 783, attributes := #[] }, { accessFlags := 0, nameIndex := 532, descriptorIndex := 821, attributes := #[] }, { accessFlags := 2, nameIndex := 5, descriptorIndex := 29, attributes := #[] }, { accessFlags := 0, nameIndex := 5, descriptorIndex := 491, attributes := #[] }, { accessFlags := 0, nameIndex := 5, descriptorIndex := 211, attributes := #[] }, { accessFlags := 0, nameIndex := 17, descriptorIndex := 337, attributes := #[] }, { accessFlags := 0, nameIndex := 494, descriptorIndex := 142, attributes := #[] }, { accessFlags := 8, nameIndex := 501, descriptorIndex := 391, attributes := #[] }, { accessFlags := 8, nameIndex := 36, descriptorIndex := 37, attributes := #[] }] 49 2 #[1106, 1108, 575, 1110, 1112] #[{ accessFlags := 18, nameIndex := 13, descriptorIndex := 14, attributes := #[] }, { accessFlags := 18, nameIndex := 17, descriptorIndex := 18, attributes := #[] }, { accessFlags := 2, nameIndex := 21, descriptorIndex := 22, attributes := #[] }, { accessFlags := 2, nameIndex := 25, descriptorIndex := 26, attributes := #[] }, { accessFlags := 26, nameIndex := 1116, descriptorIndex := 1117, attributes := #[] }, { accessFlags := 24, nameIndex := 40, descriptorIndex := 26, attributes := #[] }, { accessFlags := 26, nameIndex := 1101, descriptorIndex := 1102, attributes := #[] }, { accessFlags := 26, nameIndex := 1121, descriptorIndex := 1122, attributes := #[] }, { accessFlags := 25, nameIndex := 599, descriptorIndex := 600, attributes := #[] }, { accessFlags := 24, nameIndex := 1125, descriptorIndex := 18, attributes := #[] }, { accessFlags := 24, nameIndex := 1127, descriptorIndex := 18, attributes := #[] }])
  fields := #[{ name := "value", type := (.array .byte), accessFlags := 18, slot := 0, constantValue := 0 }, { name := "coder", type := .byte, accessFlags := 18, slot := 1, constantValue := 0 }, { name := "hash", type := .int, accessFlags := 2, slot := 2, constantValue := 0 }, { name := "hashIsZero", type := .boolean, accessFlags := 2, slot := 3, constantValue := 0 }, { name := "serialVersionUID", type := .long, accessFlags := 26, slot := 0, constantValue := 0 }, { name := "COMPACT_STRINGS", type := .boolean, accessFlags := 24, slot := 1, constantValue := 0 }, { name := "serialPersistentFields", type := (.array (.object "java/io/ObjectStreamField")), accessFlags := 26, slot := 2, constantValue := 0 }, { name := "REPL", type := .char, accessFlags := 26, slot := 3, constantValue := 0 }, { name := "CASE_INSENSITIVE_ORDER", type := (.object "java/util/Comparator"), accessFlags := 25, slot := 4, constantValue := 0 }, { name := "LATIN1", type := .byte, accessFlags := 24, slot := 5, constantValue := 0 }, { name := "UTF16", type := .byte, accessFlags := 24, slot := 6, constantValue := 0 }]
  methods := #[k7m0, k7m1, k7m2, k7m3, k7m4, k7m5, k7m6, k7m7, k7m8, k7m9, k7m10, k7m11, k7m12, k7m13]
  instanceTypes := #[(.array .byte), .byte, .int, .boolean]
  staticTypes := #[.long, .boolean, (.array (.object "java/io/ObjectStreamField")), .char, (.object "java/util/Comparator"), .byte, .byte]
  resolved := Array.replicate 1451 none
  statics := some 0 }

def pool8 : Array CpInfo := pool [(1, .class_ 2), (0, u "java/lang/String"), (1, .class_ 6), (1, u "java/lang/Object"), (0, u "<init>"), (0, u "()V"), (0, .methodref 1 10), (0, .nameAndType 11 12), (0, u "checkIndex"), (0, u "(II)V"), (1, .class_ 16), (1, u "java/lang/StringLatin1"), (0, u "inflate"), (2, .class_ 22), (1, u "java/lang/StringUTF16"), (3, .nameAndType 17 27), (0, u "([BI[BII)V"), (25, u "([BI)C"), (36, u "canEncode"), (14, u "(C)Z"), (15, u "$assertionsDisabled"), (0, u "Z"), (98, .class_ 223), (1, u "java/lang/StringLatin1$LinesSpliterator"), (16, .methodref 20 26), (11, u "charAt"), (127, u "toBytes"), (1, u "(C)[B"), (7, .class_ 391), (0, u "java/lang/StringLatin1$CharsSpliterator")] 3

def k8m0 : Method := { name := "<init>", desc := "()V", sig := { parameters := [], returnType := none }, accessFlags := 0, code := none }
def k8c1 : Code := { maxStack := 2, maxLocals := 2, code := jdk_43_method_2_code, exceptionTable := #[], attributes := #[] }
def k8m1 : Method := { name := "charAt", desc := "([BI)C", sig := { parameters := [(.array .byte), .int], returnType := some .char }, accessFlags := 9, code := some k8c1 }
def k8c2 : Code := { maxStack := 2, maxLocals := 1, code := jdk_43_method_3_code, exceptionTable := #[], attributes := #[] }
def k8m2 : Method := { name := "canEncode", desc := "(C)Z", sig := { parameters := [.char], returnType := some .boolean }, accessFlags := 9, code := some k8c2 }
def k8c3 : Code := { maxStack := 4, maxLocals := 1, code := jdk_43_method_46_code, exceptionTable := #[], attributes := #[] }
def k8m3 : Method := { name := "toBytes", desc := "(C)[B", sig := { parameters := [.char], returnType := some (.array .byte) }, accessFlags := 9, code := some k8c3 }
def k8c4 : Code := { maxStack := 5, maxLocals := 5, code := jdk_43_method_50_code, exceptionTable := #[], attributes := #[] }
def k8m4 : Method := { name := "inflate", desc := "([BI[BII)V", sig := { parameters := [(.array .byte), .int, (.array .byte), .int, .int], returnType := none }, accessFlags := 9, code := some k8c4 }
/-- java/lang/StringLatin1 -/
def k8 : Class := { plain "java/lang/StringLatin1" (some 0) with
  accessFlags := 48
  interfaces := #[]
  cf := some (fileOf pool8 14 #[.nestMembers #[390, 221]] #[{ accessFlags := 0, nameIndex := 7, descriptorIndex := 8, attributes := #[] }, { accessFlags := 9, nameIndex := 252, descriptorIndex := 53, attributes := #[] }, { accessFlags := 9, nameIndex := 90, descriptorIndex := 105, attributes := #[] }, { accessFlags := 9, nameIndex := 380, descriptorIndex := 382, attributes := #[] }, { accessFlags := 9, nameIndex := 17, descriptorIndex := 27, attributes := #[] }] 48 4 #[] #[{ accessFlags := 4120, nameIndex := 121, descriptorIndex := 122, attributes := #[] }])
  fields := #[{ name := "$assertionsDisabled", type := .boolean, accessFlags := 4120, slot := 0, constantValue := 0 }]
  methods := #[k8m0, k8m1, k8m2, k8m3, k8m4]
  instanceTypes := #[]
  staticTypes := #[.boolean]
  resolved := Array.replicate 395 none
  statics := none }

def pool9 : Array CpInfo := pool [(3, .class_ 4), (0, u "java/lang/String"), (1, .class_ 8), (1, u "java/lang/Object"), (0, u "<init>"), (0, u "()V"), (0, .methodref 12 13), (0, .class_ 14), (0, .nameAndType 15 16), (0, u "java/lang/StringUTF16"), (0, u "newBytesLength"), (0, u "(I)I"), (3, .integer 1073741823), (23, .fieldref 12 45), (0, .nameAndType 46 47), (0, u "$assertionsDisabled"), (0, u "Z"), (0, .methodref 12 49), (0, .nameAndType 50 51), (0, u "length"), (0, u "([B)I"), (7, .fieldref 12 60), (0, .nameAndType 61 62), (0, u "HI_BYTE_SHIFT"), (0, u "I"), (0, .fieldref 12 64), (0, .nameAndType 65 62), (0, u "LO_BYTE_SHIFT"), (1, .methodref 12 68), (0, .nameAndType 69 70), (0, u "checkIndex"), (0, u "(I[B)V"), (0, .methodref 12 72), (0, .nameAndType 73 74), (0, u "getChar"), (0, u "([BI)C"), (24, u "(II[B)V"), (7, .methodref 12 108), (0, .nameAndType 109 110), (0, u "newBytesFor"), (0, u "(I)[B"), (0, .methodref 12 112), (0, .nameAndType 113 114), (0, u "putChar"), (0, u "([BII)V"), (0, .methodref 12 116), (0, .nameAndType 117 118), (0, u "compress"), (0, u "([CI[BII)I"), (0, .methodref 12 120), (0, .nameAndType 121 122), (0, u "toBytes"), (0, u "([CII)[B"), (17, u "inflate"), (0, u "([BI[BII)V"), (31, .methodref 12 174), (0, .nameAndType 175 99), (0, u "checkBoundsOffCount"), (85, u "coderFromArrayLen"), (0, u "([BI)B"), (18, u "(III)I"), (87, .class_ 371), (1, u "java/lang/StringUTF16$LinesSpliterator"), (20, u "charAt"), (21, .methodref 3 415), (0, .nameAndType 69 416), (0, u "(II)V"), (2, .methodref 3 420), (0, .nameAndType 175 281), (9, u "MAX_LENGTH"), (44, u "(C)[B"), (151, .class_ 628), (0, u "java/lang/StringUTF16$CodePointsSpliterator"), (0, .class_ 630), (0, u "java/lang/StringUTF16$CharsSpliterator")] 4

def k9m0 : Method := { name := "<init>", desc := "()V", sig := { parameters := [], returnType := none }, accessFlags := 0, code := none }
def k9c1 : Code := { maxStack := 1, maxLocals := 1, code := jdk_52_method_2_code, exceptionTable := #[], attributes := #[] }
def k9m1 : Method := { name := "newBytesFor", desc := "(I)[B", sig := { parameters := [.int], returnType := some (.array .byte) }, accessFlags := 9, code := some k9c1 }
def k9c2 : Code := { maxStack := 4, maxLocals := 1, code := jdk_52_method_3_code, exceptionTable := #[], attributes := #[] }
def k9m2 : Method := { name := "newBytesLength", desc := "(I)I", sig := { parameters := [.int], returnType := some .int }, accessFlags := 9, code := some k9c2 }
def k9c3 : Code := { maxStack := 4, maxLocals := 3, code := jdk_52_method_4_code, exceptionTable := #[], attributes := #[] }
def k9m3 : Method := { name := "putChar", desc := "([BII)V", sig := { parameters := [(.array .byte), .int, .int], returnType := none }, accessFlags := 8, code := some k9c3 }
def k9c4 : Code := { maxStack := 3, maxLocals := 2, code := jdk_52_method_5_code, exceptionTable := #[], attributes := #[] }
def k9m4 : Method := { name := "getChar", desc := "([BI)C", sig := { parameters := [(.array .byte), .int], returnType := some .char }, accessFlags := 8, code := some k9c4 }
def k9c5 : Code := { maxStack := 2, maxLocals := 1, code := jdk_52_method_6_code, exceptionTable := #[], attributes := #[] }
def k9m5 : Method := { name := "length", desc := "([B)I", sig := { parameters := [(.array .byte)], returnType := some .int }, accessFlags := 9, code := some k9c5 }
def k9c6 : Code := { maxStack := 4, maxLocals := 5, code := jdk_52_method_14_code, exceptionTable := #[], attributes := #[] }
def k9m6 : Method := { name := "toBytes", desc := "([CII)[B", sig := { parameters := [(.array .char), .int, .int], returnType := some (.array .byte) }, accessFlags := 9, code := some k9c6 }
def k9c7 : Code := { maxStack := 2, maxLocals := 2, code := jdk_52_method_15_code, exceptionTable := #[], attributes := #[] }
def k9m7 : Method := { name := "coderFromArrayLen", desc := "([BI)B", sig := { parameters := [(.array .byte), .int], returnType := some .byte }, accessFlags := 8, code := some k9c7 }
def k9c8 : Code := { maxStack := 5, maxLocals := 6, code := jdk_52_method_16_code, exceptionTable := #[], attributes := #[] }
def k9m8 : Method := { name := "compress", desc := "([CII)[B", sig := { parameters := [(.array .char), .int, .int], returnType := some (.array .byte) }, accessFlags := 9, code := some k9c8 }
def k9c9 : Code := { maxStack := 3, maxLocals := 7, code := jdk_52_method_21_code, exceptionTable := #[], attributes := #[] }
def k9m9 : Method := { name := "compress", desc := "([CI[BII)I", sig := { parameters := [(.array .char), .int, (.array .byte), .int, .int], returnType := some .int }, accessFlags := 9, code := some k9c9 }
def k9c10 : Code := { maxStack := 3, maxLocals := 2, code := jdk_52_method_24_code, exceptionTable := #[], attributes := #[] }
def k9m10 : Method := { name := "toBytes", desc := "(C)[B", sig := { parameters := [.char], returnType := some (.array .byte) }, accessFlags := 9, code := some k9c10 }
def k9c11 : Code := { maxStack := 2, maxLocals := 2, code := jdk_52_method_83_code, exceptionTable := #[], attributes := #[] }
def k9m11 : Method := { name := "charAt", desc := "([BI)C", sig := { parameters := [(.array .byte), .int], returnType := some .char }, accessFlags := 9, code := some k9c11 }
def k9c12 : Code := { maxStack := 4, maxLocals := 6, code := jdk_52_method_86_code, exceptionTable := #[], attributes := #[] }
def k9m12 : Method := { name := "inflate", desc := "([BI[BII)V", sig := { parameters := [(.array .byte), .int, (.array .byte), .int, .int], returnType := none }, accessFlags := 9, code := some k9c12 }
def k9c13 : Code := { maxStack := 2, maxLocals := 2, code := jdk_52_method_91_code, exceptionTable := #[], attributes := #[] }
def k9m13 : Method := { name := "checkIndex", desc := "(I[B)V", sig := { parameters := [.int, (.array .byte)], returnType := none }, accessFlags := 9, code := some k9c13 }
def k9c14 : Code := { maxStack := 3, maxLocals := 3, code := jdk_52_method_94_code, exceptionTable := #[], attributes := #[] }
def k9m14 : Method := { name := "checkBoundsOffCount", desc := "(II[B)V", sig := { parameters := [.int, .int, (.array .byte)], returnType := none }, accessFlags := 9, code := some k9c14 }
/-- java/lang/StringUTF16 -/
def k9 : Class := { plain "java/lang/StringUTF16" (some 0) with
  accessFlags := 48
  interfaces := #[]
  cf := some (fileOf pool9 12 #[.nestMembers #[627, 629, 369]] #[{ accessFlags := 0, nameIndex := 9, descriptorIndex := 10, attributes := #[] }, { accessFlags := 9, nameIndex := 109, descriptorIndex := 110, attributes := #[] }, { accessFlags := 9, nameIndex := 15, descriptorIndex := 16, attributes := #[] }, { accessFlags := 8, nameIndex := 113, descriptorIndex := 114, attributes := #[] }, { accessFlags := 8, nameIndex := 73, descriptorIndex := 74, attributes := #[] }, { accessFlags := 9, nameIndex := 50, descriptorIndex := 51, attributes := #[] }, { accessFlags := 9, nameIndex := 121, descriptorIndex := 122, attributes := #[] }, { accessFlags := 8, nameIndex := 261, descriptorIndex := 262, attributes := #[] }, { accessFlags := 9, nameIndex := 117, descriptorIndex := 122, attributes := #[] }, { accessFlags := 9, nameIndex := 117, descriptorIndex := 118, attributes := #[] }, { accessFlags := 9, nameIndex := 121, descriptorIndex := 475, attributes := #[] }, { accessFlags := 9, nameIndex := 392, descriptorIndex := 74, attributes := #[] }, { accessFlags := 9, nameIndex := 140, descriptorIndex := 141, attributes := #[] }, { accessFlags := 9, nameIndex := 69, descriptorIndex := 70, attributes := #[] }, { accessFlags := 9, nameIndex := 175, descriptorIndex := 99, attributes := #[] }] 48 6 #[] #[{ accessFlags := 26, nameIndex := 61, descriptorIndex := 62, attributes := #[] }, { accessFlags := 26, nameIndex := 65, descriptorIndex := 62, attributes := #[] }, { accessFlags := 24, nameIndex := 430, descriptorIndex := 62, attributes := #[] }, { accessFlags := 4120, nameIndex := 46, descriptorIndex := 47, attributes := #[] }])
  fields := #[{ name := "HI_BYTE_SHIFT", type := .int, accessFlags := 26, slot := 0, constantValue := 0 }, { name := "LO_BYTE_SHIFT", type := .int, accessFlags := 26, slot := 1, constantValue := 0 }, { name := "MAX_LENGTH", type := .int, accessFlags := 24, slot := 2, constantValue := 0 }, { name := "$assertionsDisabled", type := .boolean, accessFlags := 4120, slot := 3, constantValue := 0 }]
  methods := #[k9m0, k9m1, k9m2, k9m3, k9m4, k9m5, k9m6, k9m7, k9m8, k9m9, k9m10, k9m11, k9m12, k9m13, k9m14]
  instanceTypes := #[]
  staticTypes := #[.int, .int, .int, .boolean]
  resolved := Array.replicate 635 none
  statics := some 1 }

def pool10 : Array CpInfo := pool [(1, .methodref 2 3), (0, .class_ 4), (0, .nameAndType 5 6), (0, u "java/lang/Object"), (0, u "<init>"), (0, u "()V"), (0, .fieldref 8 9), (0, .class_ 10), (0, .nameAndType 11 12), (0, u "com/example/hash4/hash4/canonical/CanonicalUrl"), (0, u "scheme"), (0, u "Ljava/lang/String;"), (0, .fieldref 8 14), (0, .nameAndType 15 12), (0, u "host"), (0, .fieldref 8 17), (0, .nameAndType 18 19), (0, u "hostIsIpv4Address"), (0, u "Z"), (0, .fieldref 8 21), (0, .nameAndType 22 12), (0, u "path"), (0, .fieldref 8 24), (0, .nameAndType 25 12), (0, u "query"), (0, .class_ 27), (0, u "java/lang/StringBuilder"), (0, .methodref 26 3), (0, .methodref 26 30), (0, .nameAndType 31 32), (0, u "append"), (0, u "(Ljava/lang/String;)Ljava/lang/StringBuilder;"), (0, .string 34), (0, u "://"), (0, .methodref 26 36), (0, .nameAndType 37 38), (0, u "toString"), (0, u "()Ljava/lang/String;"), (0, .string 40), (0, u "?"), (0, u "(Ljava/lang/String;Ljava/lang/String;ZLjava/lang/String;Ljava/lang/String;)V")] 8

def k10c0 : Code := { maxStack := 2, maxLocals := 6, code := prog_1_method_1_code, exceptionTable := #[], attributes := #[] }
def k10m0 : Method := { name := "<init>", desc := "(Ljava/lang/String;Ljava/lang/String;ZLjava/lang/String;Ljava/lang/String;)V", sig := { parameters := [(.object "java/lang/String"), (.object "java/lang/String"), .boolean, (.object "java/lang/String"), (.object "java/lang/String")], returnType := none }, accessFlags := 0, code := some k10c0 }
def k10c1 : Code := { maxStack := 2, maxLocals := 2, code := prog_1_method_7_code, exceptionTable := #[], attributes := #[] }
def k10m1 : Method := { name := "toString", desc := "()Ljava/lang/String;", sig := { parameters := [], returnType := some (.object "java/lang/String") }, accessFlags := 1, code := some k10c1 }
/-- com/example/hash4/hash4/canonical/CanonicalUrl -/
def k10 : Class := { plain "com/example/hash4/hash4/canonical/CanonicalUrl" (some 0) with
  accessFlags := 33
  interfaces := #[]
  cf := some (fileOf pool10 8 #[] #[{ accessFlags := 0, nameIndex := 5, descriptorIndex := 41, attributes := #[] }, { accessFlags := 1, nameIndex := 37, descriptorIndex := 38, attributes := #[] }] 33 2 #[] #[{ accessFlags := 18, nameIndex := 11, descriptorIndex := 12, attributes := #[] }, { accessFlags := 18, nameIndex := 15, descriptorIndex := 12, attributes := #[] }, { accessFlags := 18, nameIndex := 18, descriptorIndex := 19, attributes := #[] }, { accessFlags := 18, nameIndex := 22, descriptorIndex := 12, attributes := #[] }, { accessFlags := 18, nameIndex := 25, descriptorIndex := 12, attributes := #[] }])
  fields := #[{ name := "scheme", type := (.object "java/lang/String"), accessFlags := 18, slot := 0, constantValue := 0 }, { name := "host", type := (.object "java/lang/String"), accessFlags := 18, slot := 1, constantValue := 0 }, { name := "hostIsIpv4Address", type := .boolean, accessFlags := 18, slot := 2, constantValue := 0 }, { name := "path", type := (.object "java/lang/String"), accessFlags := 18, slot := 3, constantValue := 0 }, { name := "query", type := (.object "java/lang/String"), accessFlags := 18, slot := 4, constantValue := 0 }]
  methods := #[k10m0, k10m1]
  instanceTypes := #[(.object "java/lang/String"), (.object "java/lang/String"), .boolean, (.object "java/lang/String"), (.object "java/lang/String")]
  staticTypes := #[]
  resolved := Array.replicate 50 none
  statics := none }

def pool11 : Array CpInfo := pool [(1, .class_ 2), (0, u "java/lang/Appendable"), (0, .class_ 4), (0, u "java/lang/Object")] 9

/-- java/lang/Appendable -/
def k11 : Class := { plain "java/lang/Appendable" (some 0) with
  accessFlags := 1537
  interfaces := #[]
  cf := some (fileOf pool11 1 #[] #[] 1537 3 #[] #[])
  fields := #[]
  methods := #[]
  instanceTypes := #[]
  staticTypes := #[]
  resolved := Array.replicate 14 none
  statics := none }

def pool12 : Array CpInfo := pool [(1, .class_ 2), (0, u "java/lang/String"), (0, .methodref 4 5), (0, .class_ 6), (0, .nameAndType 7 8), (0, u "java/lang/Object"), (0, u "<init>"), (0, u "()V"), (1, .class_ 12), (1, u "java/lang/AbstractStringBuilder"), (0, u "EMPTYVALUE"), (0, u "[B"), (0, .fieldref 10 16), (0, .nameAndType 17 14), (0, u "value"), (0, .fieldref 1 19), (0, .nameAndType 20 21), (0, u "COMPACT_STRINGS"), (0, u "Z"), (0, .fieldref 10 23), (0, .nameAndType 24 25), (0, u "coder"), (0, u "B"), (0, .methodref 27 28), (0, .class_ 29), (0, .nameAndType 30 31), (0, u "java/lang/StringUTF16"), (0, u "newBytesFor"), (0, u "(I)[B"), (0, .methodref 1 33), (0, .nameAndType 34 35), (0, u "length"), (0, u "()I"), (4, .methodref 1 41), (0, .nameAndType 24 42), (0, u "()B"), (2, u "append"), (0, u "(Ljava/lang/String;)Ljava/lang/AbstractStringBuilder;"), (1, .class_ 49), (0, u "java/lang/CharSequence"), (19, u "(Ljava/lang/String;)V"), (5, u "maybeLatin1"), (3, .fieldref 10 80), (0, .nameAndType 81 82), (0, u "count"), (0, u "I"), (0, .methodref 10 84), (0, .nameAndType 85 86), (0, u "isLatin1"), (0, u "()Z"), (1, .class_ 90), (1, u "java/lang/StringLatin1"), (9, .methodref 10 101), (0, .nameAndType 102 103), (0, u "ensureCapacityInternal"), (0, u "(I)V"), (21, .methodref 88 126), (0, .nameAndType 127 128), (0, u "inflate"), (0, u "([BI[BII)V"), (66, .methodref 10 196), (0, .nameAndType 127 8), (11, .methodref 10 209), (0, .nameAndType 210 211), (0, u "putStringAt"), (0, u "(ILjava/lang/String;)V"), (5, u "inflateIfNeededFor"), (2, .nameAndType 221 222), (0, u "getBytes"), (0, u "([BIB)V"), (174, .methodref 10 398), (0, .nameAndType 217 69), (0, .methodref 1 220), (3, u "()[B"), (40, .class_ 445), (0, u "java/lang/Appendable"), (106, u "getValue")] 56

def k12m0 : Method := { name := "<init>", desc := "()V", sig := { parameters := [], returnType := none }, accessFlags := 0, code := none }
def k12c1 : Code := { maxStack := 2, maxLocals := 2, code := jdk_68_method_2_code, exceptionTable := #[], attributes := #[] }
def k12m1 : Method := { name := "<init>", desc := "(I)V", sig := { parameters := [.int], returnType := none }, accessFlags := 0, code := some k12c1 }
def k12c2 : Code := { maxStack := 1, maxLocals := 1, code := jdk_68_method_6_code, exceptionTable := #[], attributes := #[] }
def k12m2 : Method := { name := "length", desc := "()I", sig := { parameters := [], returnType := some .int }, accessFlags := 1, code := some k12c2 }
def k12c3 : Code := { maxStack := 4, maxLocals := 3, code := jdk_68_method_9_code, exceptionTable := #[], attributes := #[] }
def k12m3 : Method := { name := "ensureCapacityInternal", desc := "(I)V", sig := { parameters := [.int], returnType := none }, accessFlags := 2, code := some k12c3 }
def k12c4 : Code := { maxStack := 5, maxLocals := 2, code := jdk_68_method_11_code, exceptionTable := #[], attributes := #[] }
def k12m4 : Method := { name := "inflate", desc := "()V", sig := { parameters := [], returnType := none }, accessFlags := 2, code := some k12c4 }
def k12c5 : Code := { maxStack := 3, maxLocals := 3, code := jdk_68_method_22_code, exceptionTable := #[], attributes := #[] }
def k12m5 : Method := { name := "append", desc := "(Ljava/lang/String;)Ljava/lang/AbstractStringBuilder;", sig := { parameters := [(.object "java/lang/String")], returnType := some (.object "java/lang/AbstractStringBuilder") }, accessFlags := 1, code := some k12c5 }
def k12c6 : Code := { maxStack := 1, maxLocals := 1, code := jdk_68_method_64_code, exceptionTable := #[], attributes := #[] }
def k12m6 : Method := { name := "getValue", desc := "()[B", sig := { parameters := [], returnType := some (.array .byte) }, accessFlags := 16, code := some k12c6 }
def k12c7 : Code := { maxStack := 1, maxLocals := 1, code := jdk_68_method_68_code, exceptionTable := #[], attributes := #[] }
def k12m7 : Method := { name := "isLatin1", desc := "()Z", sig := { parameters := [], returnType := some .boolean }, accessFlags := 16, code := some k12c7 }
def k12c8 : Code := { maxStack := 2, maxLocals := 2, code := jdk_68_method_71_code, exceptionTable := #[], attributes := #[] }
def k12m8 : Method := { name := "inflateIfNeededFor", desc := "(Ljava/lang/String;)V", sig := { parameters := [(.object "java/lang/String")], returnType := none }, accessFlags := 2, code := some k12c8 }
def k12c9 : Code := { maxStack := 4, maxLocals := 3, code := jdk_68_method_73_code, exceptionTable := #[], attributes := #[] }
def k12m9 : Method := { name := "putStringAt", desc := "(ILjava/lang/String;)V", sig := { parameters := [.int, (.object "java/lang/String")], returnType := none }, accessFlags := 2, code := some k12c9 }
/-- java/lang/AbstractStringBuilder -/
def k12 : Class := { plain "java/lang/AbstractStringBuilder" (some 0) with
  accessFlags := 1056
  interfaces := #[11, 4]
  cf := some (fileOf pool12 10 #[] #[{ accessFlags := 0, nameIndex := 7, descriptorIndex := 8, attributes := #[] }, { accessFlags := 0, nameIndex := 7, descriptorIndex := 103, attributes := #[] }, { accessFlags := 1, nameIndex := 34, descriptorIndex := 35, attributes := #[] }, { accessFlags := 2, nameIndex := 102, descriptorIndex := 103, attributes := #[] }, { accessFlags := 2, nameIndex := 127, descriptorIndex := 8, attributes := #[] }, { accessFlags := 1, nameIndex := 45, descriptorIndex := 46, attributes := #[] }, { accessFlags := 16, nameIndex := 552, descriptorIndex := 403, attributes := #[] }, { accessFlags := 16, nameIndex := 85, descriptorIndex := 86, attributes := #[] }, { accessFlags := 2, nameIndex := 217, descriptorIndex := 69, attributes := #[] }, { accessFlags := 2, nameIndex := 210, descriptorIndex := 211, attributes := #[] }] 1056 4 #[444, 48] #[{ accessFlags := 0, nameIndex := 17, descriptorIndex := 14, attributes := #[] }, { accessFlags := 0, nameIndex := 24, descriptorIndex := 25, attributes := #[] }, { accessFlags := 0, nameIndex := 75, descriptorIndex := 21, attributes := #[] }, { accessFlags := 0, nameIndex := 81, descriptorIndex := 82, attributes := #[] }, { accessFlags := 26, nameIndex := 13, descriptorIndex := 14, attributes := #[] }])
  fields := #[{ name := "value", type := (.array .byte), accessFlags := 0, slot := 0, constantValue := 0 }, { name := "coder", type := .byte, accessFlags := 0, slot := 1, constantValue := 0 }, { name := "maybeLatin1", type := .boolean, accessFlags := 0, slot := 2, constantValue := 0 }, { name := "count", type := .int, accessFlags := 0, slot := 3, constantValue := 0 }, { name := "EMPTYVALUE", type := (.array .byte), accessFlags := 26, slot := 0, constantValue := 0 }]
  methods := #[k12m0, k12m1, k12m2, k12m3, k12m4, k12m5, k12m6, k12m7, k12m8, k12m9]
  instanceTypes := #[(.array .byte), .byte, .boolean, .int]
  staticTypes := #[(.array .byte)]
  resolved := Array.replicate 609 none
  statics := none }

def pool13 : Array CpInfo := pool [(1, .methodref 2 3), (0, .class_ 4), (0, .nameAndType 5 6), (0, u "java/lang/AbstractStringBuilder"), (0, u "<init>"), (0, u "(I)V"), (11, .class_ 20), (1, u "java/lang/String"), (3, .class_ 26), (1, u "java/lang/StringBuilder"), (0, u "append"), (0, u "(Ljava/lang/String;)Ljava/lang/StringBuilder;"), (0, .methodref 2 30), (0, .nameAndType 27 31), (0, u "(Ljava/lang/String;)Ljava/lang/AbstractStringBuilder;"), (105, .methodref 18 138), (0, .nameAndType 5 139), (0, u "(Ljava/lang/StringBuilder;)V"), (5, u "()V"), (10, u "()I"), (186, .methodref 2 344), (0, .nameAndType 345 156), (0, u "length"), (3, .class_ 350), (0, u "java/lang/Appendable"), (0, .class_ 352), (0, u "java/io/Serializable"), (0, .class_ 354), (0, u "java/lang/Comparable"), (0, .class_ 356), (0, u "java/lang/CharSequence"), (0, u "serialVersionUID"), (0, u "J"), (40, u "toString"), (0, u "()Ljava/lang/String;")] 21

def k13c0 : Code := { maxStack := 2, maxLocals := 1, code := jdk_67_method_1_code, exceptionTable := #[], attributes := #[] }
def k13m0 : Method := { name := "<init>", desc := "()V", sig := { parameters := [], returnType := none }, accessFlags := 1, code := some k13c0 }
def k13c1 : Code := { maxStack := 2, maxLocals := 2, code := jdk_67_method_7_code, exceptionTable := #[], attributes := #[] }
def k13m1 : Method := { name := "append", desc := "(Ljava/lang/String;)Ljava/lang/StringBuilder;", sig := { parameters := [(.object "java/lang/String")], returnType := some (.object "java/lang/StringBuilder") }, accessFlags := 1, code := some k13c1 }
def k13c2 : Code := { maxStack := 3, maxLocals := 1, code := jdk_67_method_42_code, exceptionTable := #[], attributes := #[] }
def k13m2 : Method := { name := "toString", desc := "()Ljava/lang/String;", sig := { parameters := [], returnType := some (.object "java/lang/String") }, accessFlags := 1, code := some k13c2 }
def k13c3 : Code := { maxStack := 1, maxLocals := 1, code := jdk_67_method_93_code, exceptionTable := #[], attributes := #[] }
def k13m3 : Method := { name := "length", desc := "()I", sig := { parameters := [], returnType := some .int }, accessFlags := 4161, code := some k13c3 }
/-- java/lang/StringBuilder -/
def k13 : Class := { plain "java/lang/StringBuilder" (some 12) with
  accessFlags := 49
  interfaces := #[11, 2, 3, 4]
  cf := some (fileOf pool13 24 #[] #[{ accessFlags := 1, nameIndex := 5, descriptorIndex := 145, attributes := #[] }, { accessFlags := 1, nameIndex := 27, descriptorIndex := 28, attributes := #[] }, { accessFlags := 1, nameIndex := 399, descriptorIndex := 400, attributes := #[] }, { accessFlags := 4161, nameIndex := 345, descriptorIndex := 156, attributes := #[] }] 49 2 #[349, 351, 353, 355] #[{ accessFlags := 24, nameIndex := 357, descriptorIndex := 358, attributes := #[] }])
  fields := #[{ name := "serialVersionUID", type := .long, accessFlags := 24, slot := 0, constantValue := 0 }]
  methods := #[k13m0, k13m1, k13m2, k13m3]
  instanceTypes := #[(.array .byte), .byte, .boolean, .int]
  staticTypes := #[.long]
  resolved := Array.replicate 422 none
  statics := none }

def pool14 : Array CpInfo := pool [(2, .class_ 4), (1, u "java/lang/Object"), (0, u "<init>"), (0, u "()V"), (1, .class_ 10), (1, u "java/lang/System"), (0, u "allowSecurityManager"), (0, u "I"), (16, u "cons"), (0, u "Ljava/io/Console;"), (77, .class_ 110), (1, u "java/lang/System$CallersHolder"), (43, u "initialErrStream"), (0, u "Ljava/io/PrintStream;"), (19, u "security"), (0, u "Ljava/lang/SecurityManager;"), (31, .class_ 209), (0, u "java/lang/System$1"), (7, u "props"), (0, u "Ljava/util/Properties;"), (2, u "lineSeparator"), (0, u "Ljava/lang/String;"), (96, .class_ 321), (1, u "java/lang/System$LoggerFinder"), (5, .class_ 328), (0, u "java/lang/System$Logger"), (67, u "err"), (2, u "out"), (91, u "notSupportedJnuEncoding"), (15, u "in"), (17, u "initialIn"), (0, u "Ljava/io/InputStream;"), (35, u "bootLayer"), (0, u "Ljava/lang/ModuleLayer;"), (99, .class_ 664), (0, u "java/lang/System$2"), (9, u "NEVER"), (2, u "MAYBE"), (49, u "arraycopy"), (0, u "(Ljava/lang/Object;ILjava/lang/Object;II)V"), (72, .class_ 802), (0, u "java/lang/System$Logger$Level")] 31

def k14m0 : Method := { name := "<init>", desc := "()V", sig := { parameters := [], returnType := none }, accessFlags := 2, code := none }
def k14m1 : Method := { name := "arraycopy", desc := "(Ljava/lang/Object;ILjava/lang/Object;II)V", sig := { parameters := [(.object "java/lang/Object"), .int, (.object "java/lang/Object"), .int, .int], returnType := none }, accessFlags := 265, code := none }
/-- java/lang/System -/
def k14 : Class := { plain "java/lang/System" (some 0) with
  accessFlags := 49
  interfaces := #[]
  cf := some (fileOf pool14 8 #[.nestMembers #[319, 327, 801, 108, 663, 208]] #[{ accessFlags := 2, nameIndex := 5, descriptorIndex := 6, attributes := #[] }, { accessFlags := 265, nameIndex := 727, descriptorIndex := 728, attributes := #[] }] 49 2 #[] #[{ accessFlags := 25, nameIndex := 507, descriptorIndex := 526, attributes := #[] }, { accessFlags := 25, nameIndex := 399, descriptorIndex := 155, attributes := #[] }, { accessFlags := 25, nameIndex := 396, descriptorIndex := 155, attributes := #[] }, { accessFlags := 10, nameIndex := 525, descriptorIndex := 526, attributes := #[] }, { accessFlags := 26, nameIndex := 674, descriptorIndex := 12, attributes := #[] }, { accessFlags := 26, nameIndex := 677, descriptorIndex := 12, attributes := #[] }, { accessFlags := 10, nameIndex := 11, descriptorIndex := 12, attributes := #[] }, { accessFlags := 74, nameIndex := 175, descriptorIndex := 176, attributes := #[] }, { accessFlags := 10, nameIndex := 491, descriptorIndex := 222, attributes := #[] }, { accessFlags := 74, nameIndex := 29, descriptorIndex := 30, attributes := #[] }, { accessFlags := 74, nameIndex := 154, descriptorIndex := 155, attributes := #[] }, { accessFlags := 10, nameIndex := 217, descriptorIndex := 218, attributes := #[] }, { accessFlags := 10, nameIndex := 221, descriptorIndex := 222, attributes := #[] }, { accessFlags := 8, nameIndex := 562, descriptorIndex := 563, attributes := #[] }])
  fields := #[{ name := "in", type := (.object "java/io/InputStream"), accessFlags := 25, slot := 0, constantValue := 0 }, { name := "out", type := (.object "java/io/PrintStream"), accessFlags := 25, slot := 1, constantValue := 0 }, { name := "err", type := (.object "java/io/PrintStream"), accessFlags := 25, slot := 2, constantValue := 0 }, { name := "initialIn", type := (.object "java/io/InputStream"), accessFlags := 10, slot := 3, constantValue := 0 }, { name := "NEVER", type := .int, accessFlags := 26, slot := 4, constantValue := 0 }, { name := "MAYBE", type := .int, accessFlags := 26, slot := 5, constantValue := 0 }, { name := "allowSecurityManager", type := .int, accessFlags := 10, slot := 6, constantValue := 0 }, { name := "security", type := (.object "java/lang/SecurityManager"), accessFlags := 74, slot := 7, constantValue := 0 }, { name := "notSupportedJnuEncoding", type := (.object "java/lang/String"), accessFlags := 10, slot := 8, constantValue := 0 }, { name := "cons", type := (.object "java/io/Console"), accessFlags := 74, slot := 9, constantValue := 0 }, { name := "initialErrStream", type := (.object "java/io/PrintStream"), accessFlags := 74, slot := 10, constantValue := 0 }, { name := "props", type := (.object "java/util/Properties"), accessFlags := 10, slot := 11, constantValue := 0 }, { name := "lineSeparator", type := (.object "java/lang/String"), accessFlags := 10, slot := 12, constantValue := 0 }, { name := "bootLayer", type := (.object "java/lang/ModuleLayer"), accessFlags := 8, slot := 13, constantValue := 0 }]
  methods := #[k14m0, k14m1]
  instanceTypes := #[]
  staticTypes := #[(.object "java/io/InputStream"), (.object "java/io/PrintStream"), (.object "java/io/PrintStream"), (.object "java/io/InputStream"), .int, .int, .int, (.object "java/lang/SecurityManager"), (.object "java/lang/String"), (.object "java/io/Console"), (.object "java/io/PrintStream"), (.object "java/util/Properties"), (.object "java/lang/String"), (.object "java/lang/ModuleLayer")]
  resolved := Array.replicate 834 none
  statics := none }

def pool15 : Array CpInfo := pool [(2, .class_ 4), (1, u "java/lang/Object"), (0, u "<init>"), (0, u "()V"), (7, .class_ 16), (1, u "java/util/Arrays"), (57, .class_ 76), (1, u "java/util/Arrays$NaturalOrder"), (36, .class_ 115), (1, u "java/util/Arrays$LegacyMergeSort"), (1, u "Z"), (21, u "copyOfRange"), (10, .methodref 151 152), (0, .class_ 153), (0, .nameAndType 154 155), (0, u "java/lang/System"), (0, u "arraycopy"), (0, u "(Ljava/lang/Object;ILjava/lang/Object;II)V"), (148, .methodref 305 306), (0, .class_ 307), (0, .nameAndType 308 309), (0, u "java/lang/Math"), (0, u "min"), (0, u "(II)I"), (29, .methodref 14 340), (0, .nameAndType 341 342), (0, u "copyOfRangeByte"), (0, u "([BII)[B"), (0, .methodref 14 344), (0, .nameAndType 345 346), (0, u "checkLength"), (0, u "(II)V"), (28, .class_ 376), (0, u "java/util/Arrays$ArrayList"), (68, u "$assertionsDisabled"), (269, u "MIN_ARRAY_SORT_GRAN"), (0, u "I"), (2, u "INSERTIONSORT_THRESHOLD"), (255, .class_ 976), (0, u "java/util/Arrays$ArrayItr")] 52

def k15m0 : Method := { name := "<init>", desc := "()V", sig := { parameters := [], returnType := none }, accessFlags := 2, code := none }
def k15c1 : Code := { maxStack := 4, maxLocals := 2, code := jdk_65_method_131_code, exceptionTable := #[], attributes := #[] }
def k15m1 : Method := { name := "checkLength", desc := "(II)V", sig := { parameters := [.int, .int], returnType := none }, accessFlags := 10, code := some k15c1 }
def k15c2 : Code := { maxStack := 3, maxLocals := 3, code := jdk_65_method_132_code, exceptionTable := #[], attributes := #[] }
def k15m2 : Method := { name := "copyOfRange", desc := "([BII)[B", sig := { parameters := [(.array .byte), .int, .int], returnType := some (.array .byte) }, accessFlags := 9, code := some k15c2 }
def k15c3 : Code := { maxStack := 6, maxLocals := 5, code := jdk_65_method_133_code, exceptionTable := #[], attributes := #[] }
def k15m3 : Method := { name := "copyOfRangeByte", desc := "([BII)[B", sig := { parameters := [(.array .byte), .int, .int], returnType := some (.array .byte) }, accessFlags := 10, code := some k15c3 }
/-- java/util/Arrays -/
def k15 : Class := { plain "java/util/Arrays" (some 0) with
  accessFlags := 49
  interfaces := #[]
  cf := some (fileOf pool15 14 #[.nestMembers #[975, 375, 113, 74]] #[{ accessFlags := 2, nameIndex := 5, descriptorIndex := 6, attributes := #[] }, { accessFlags := 10, nameIndex := 345, descriptorIndex := 346, attributes := #[] }, { accessFlags := 9, nameIndex := 139, descriptorIndex := 342, attributes := #[] }, { accessFlags := 10, nameIndex := 341, descriptorIndex := 342, attributes := #[] }] 49 2 #[] #[{ accessFlags := 26, nameIndex := 715, descriptorIndex := 716, attributes := #[] }, { accessFlags := 26, nameIndex := 719, descriptorIndex := 716, attributes := #[] }, { accessFlags := 4120, nameIndex := 445, descriptorIndex := 117, attributes := #[] }])
  fields := #[{ name := "MIN_ARRAY_SORT_GRAN", type := .int, accessFlags := 26, slot := 0, constantValue := 0 }, { name := "INSERTIONSORT_THRESHOLD", type := .int, accessFlags := 26, slot := 1, constantValue := 0 }, { name := "$assertionsDisabled", type := .boolean, accessFlags := 4120, slot := 2, constantValue := 0 }]
  methods := #[k15m0, k15m1, k15m2, k15m3]
  instanceTypes := #[]
  staticTypes := #[.int, .int, .boolean]
  resolved := Array.replicate 1029 none
  statics := none }

def pool16 : Array CpInfo := pool [(1, .class_ 2), (0, u "java/lang/Math"), (1, .class_ 6), (1, u "java/lang/Object"), (0, u "<init>"), (0, u "()V"), (89, .class_ 100), (1, u "java/lang/Math$RandomNumberGeneratorHolder"), (71, u "negativeZeroFloatBits"), (0, u "J"), (2, u "negativeZeroDoubleBits"), (24, u "min"), (43, u "$assertionsDisabled"), (0, u "Z"), (88, u "(II)I"), (2, u "twoToTheDoubleScaleDown"), (0, u "D"), (4, u "twoToTheDoubleScaleUp"), (9, u "E"), (3, u "PI"), (2, u "TAU"), (2, u "DEGREES_TO_RADIANS"), (0, u "RADIANS_TO_DEGREES")] 94

def k16m0 : Method := { name := "<init>", desc := "()V", sig := { parameters := [], returnType := none }, accessFlags := 2, code := none }
def k16c1 : Code := { maxStack := 2, maxLocals := 2, code := jdk_29_method_69_code, exceptionTable := #[], attributes := #[] }
def k16m1 : Method := { name := "min", desc := "(II)I", sig := { parameters := [.int, .int], returnType := some .int }, accessFlags := 9, code := some k16c1 }
/-- java/lang/Math -/
def k16 : Class := { plain "java/lang/Math" (some 0) with
  accessFlags := 49
  interfaces := #[]
  cf := some (fileOf pool16 1 #[.nestMembers #[98]] #[{ accessFlags := 2, nameIndex := 7, descriptorIndex := 8, attributes := #[] }, { accessFlags := 9, nameIndex := 201, descriptorIndex := 335, attributes := #[] }] 49 4 #[] #[{ accessFlags := 25, nameIndex := 354, descriptorIndex := 339, attributes := #[] }, { accessFlags := 25, nameIndex := 358, descriptorIndex := 339, attributes := #[] }, { accessFlags := 25, nameIndex := 361, descriptorIndex := 339, attributes := #[] }, { accessFlags := 26, nameIndex := 364, descriptorIndex := 339, attributes := #[] }, { accessFlags := 26, nameIndex := 365, descriptorIndex := 339, attributes := #[] }, { accessFlags := 26, nameIndex := 172, descriptorIndex := 173, attributes := #[] }, { accessFlags := 26, nameIndex := 176, descriptorIndex := 173, attributes := #[] }, { accessFlags := 8, nameIndex := 344, descriptorIndex := 339, attributes := #[] }, { accessFlags := 8, nameIndex := 338, descriptorIndex := 339, attributes := #[] }, { accessFlags := 4120, nameIndex := 245, descriptorIndex := 246, attributes := #[] }])
  fields := #[{ name := "E", type := .double, accessFlags := 25, slot := 0, constantValue := 0 }, { name := "PI", type := .double, accessFlags := 25, slot := 1, constantValue := 0 }, { name := "TAU", type := .double, accessFlags := 25, slot := 2, constantValue := 0 }, { name := "DEGREES_TO_RADIANS", type := .double, accessFlags := 26, slot := 3, constantValue := 0 }, { name := "RADIANS_TO_DEGREES", type := .double, accessFlags := 26, slot := 4, constantValue := 0 }, { name := "negativeZeroFloatBits", type := .long, accessFlags := 26, slot := 5, constantValue := 0 }, { name := "negativeZeroDoubleBits", type := .long, accessFlags := 26, slot := 6, constantValue := 0 }, { name := "twoToTheDoubleScaleUp", type := .double, accessFlags := 8, slot := 7, constantValue := 0 }, { name := "twoToTheDoubleScaleDown", type := .double, accessFlags := 8, slot := 8, constantValue := 0 }, { name := "$assertionsDisabled", type := .boolean, accessFlags := 4120, slot := 9, constantValue := 0 }]
  methods := #[k16m0, k16m1]
  instanceTypes := #[]
  staticTypes := #[.double, .double, .double, .double, .double, .long, .long, .double, .double, .boolean]
  resolved := Array.replicate 460 none
  statics := none }

def pool17 : Array CpInfo := pool [(2, .class_ 4), (1, u "java/lang/Object"), (0, u "<init>"), (0, u "()V"), (17, .class_ 26), (1, u "jdk/internal/util/Preconditions"), (6, u "checkIndex"), (15, u "checkFromIndexSize"), (5, .class_ 56), (0, u "jdk/internal/util/Preconditions$4"), (57, .class_ 115), (0, u "jdk/internal/util/Preconditions$1"), (7, u "SIOOBE_FORMATTER"), (0, u "Ljava/util/function/BiFunction;"), (0, .class_ 126), (0, u "jdk/internal/util/Preconditions$2"), (3, u "AIOOBE_FORMATTER"), (0, .class_ 132), (0, u "jdk/internal/util/Preconditions$3"), (3, u "IOOBE_FORMATTER"), (41, u "(IILjava/util/function/BiFunction;)I"), (4, u "(IIILjava/util/function/BiFunction;)I")] 10

def k17m0 : Method := { name := "<init>", desc := "()V", sig := { parameters := [], returnType := none }, accessFlags := 1, code := none }
def k17c1 : Code := { maxStack := 3, maxLocals := 3, code := jdk_41_method_11_code, exceptionTable := #[], attributes := #[] }
def k17m1 : Method := { name := "checkIndex", desc := "(IILjava/util/function/BiFunction;)I", sig := { parameters := [.int, .int, (.object "java/util/function/BiFunction")], returnType := some .int }, accessFlags := 9, code := some k17c1 }
def k17c2 : Code := { maxStack := 4, maxLocals := 4, code := jdk_41_method_13_code, exceptionTable := #[], attributes := #[] }
def k17m2 : Method := { name := "checkFromIndexSize", desc := "(IIILjava/util/function/BiFunction;)I", sig := { parameters := [.int, .int, .int, (.object "java/util/function/BiFunction")], returnType := some .int }, accessFlags := 9, code := some k17c2 }
/-- jdk/internal/util/Preconditions -/
def k17 : Class := { plain "jdk/internal/util/Preconditions" (some 0) with
  accessFlags := 33
  interfaces := #[]
  cf := some (fileOf pool17 24 #[.nestMembers #[55, 131, 125, 114]] #[{ accessFlags := 1, nameIndex := 5, descriptorIndex := 6, attributes := #[] }, { accessFlags := 9, nameIndex := 33, descriptorIndex := 178, attributes := #[] }, { accessFlags := 9, nameIndex := 49, descriptorIndex := 183, attributes := #[] }] 33 2 #[] #[{ accessFlags := 25, nameIndex := 123, descriptorIndex := 124, attributes := #[] }, { accessFlags := 25, nameIndex := 130, descriptorIndex := 124, attributes := #[] }, { accessFlags := 25, nameIndex := 136, descriptorIndex := 124, attributes := #[] }])
  fields := #[{ name := "SIOOBE_FORMATTER", type := (.object "java/util/function/BiFunction"), accessFlags := 25, slot := 0, constantValue := 0 }, { name := "AIOOBE_FORMATTER", type := (.object "java/util/function/BiFunction"), accessFlags := 25, slot := 1, constantValue := 0 }, { name := "IOOBE_FORMATTER", type := (.object "java/util/function/BiFunction"), accessFlags := 25, slot := 2, constantValue := 0 }]
  methods := #[k17m0, k17m1, k17m2]
  instanceTypes := #[]
  staticTypes := #[(.object "java/util/function/BiFunction"), (.object "java/util/function/BiFunction"), (.object "java/util/function/BiFunction")]
  resolved := Array.replicate 194 none
  statics := some 2 }

def pool18 : Array CpInfo := pool [(9, u "<init>"), (6, .class_ 18), (1, u "java/lang/Object"), (0, u "()V"), (1, .class_ 23), (1, u "jdk/internal/util/ArraysSupport"), (0, u "LOG2_ARRAY_LONG_INDEX_SCALE"), (0, u "I"), (2, u "U"), (0, u "Ljdk/internal/misc/Unsafe;"), (8, u "BIG_ENDIAN"), (0, u "Z"), (8, u "LOG2_BYTE_BIT_SIZE"), (4, u "LOG2_ARRAY_INT_INDEX_SCALE"), (54, u "JLA"), (0, u "Ljdk/internal/access/JavaLangAccess;"), (11, u "LOG2_ARRAY_BOOLEAN_INDEX_SCALE"), (9, u "LOG2_ARRAY_BYTE_INDEX_SCALE"), (5, u "LOG2_ARRAY_CHAR_INDEX_SCALE"), (5, u "LOG2_ARRAY_SHORT_INDEX_SCALE"), (18, u "LOG2_ARRAY_FLOAT_INDEX_SCALE"), (24, u "LOG2_ARRAY_DOUBLE_INDEX_SCALE"), (89, u "T_BOOLEAN"), (2, u "T_CHAR"), (1, u "T_FLOAT"), (1, u "T_DOUBLE"), (1, u "T_BYTE"), (1, u "T_SHORT"), (1, u "T_INT"), (1, u "T_LONG"), (1, u "SOFT_MAX_ARRAY_LENGTH")] 83

def k18m0 : Method := { name := "<init>", desc := "()V", sig := { parameters := [], returnType := none }, accessFlags := 2, code := none }
/-- jdk/internal/util/ArraysSupport -/
def k18 : Class := { plain "jdk/internal/util/ArraysSupport" (some 0) with
  accessFlags := 33
  interfaces := #[]
  cf := some (fileOf pool18 21 #[] #[{ accessFlags := 2, nameIndex := 9, descriptorIndex := 19, attributes := #[] }] 33 16 #[] #[{ accessFlags := 24, nameIndex := 28, descriptorIndex := 29, attributes := #[] }, { accessFlags := 26, nameIndex := 38, descriptorIndex := 39, attributes := #[] }, { accessFlags := 25, nameIndex := 121, descriptorIndex := 25, attributes := #[] }, { accessFlags := 25, nameIndex := 131, descriptorIndex := 25, attributes := #[] }, { accessFlags := 25, nameIndex := 137, descriptorIndex := 25, attributes := #[] }, { accessFlags := 25, nameIndex := 143, descriptorIndex := 25, attributes := #[] }, { accessFlags := 25, nameIndex := 53, descriptorIndex := 25, attributes := #[] }, { accessFlags := 25, nameIndex := 24, descriptorIndex := 25, attributes := #[] }, { accessFlags := 25, nameIndex := 162, descriptorIndex := 25, attributes := #[] }, { accessFlags := 25, nameIndex := 187, descriptorIndex := 25, attributes := #[] }, { accessFlags := 26, nameIndex := 48, descriptorIndex := 25, attributes := #[] }, { accessFlags := 25, nameIndex := 277, descriptorIndex := 25, attributes := #[] }, { accessFlags := 25, nameIndex := 280, descriptorIndex := 25, attributes := #[] }, { accessFlags := 25, nameIndex := 282, descriptorIndex := 25, attributes := #[] }, { accessFlags := 25, nameIndex := 284, descriptorIndex := 25, attributes := #[] }, { accessFlags := 25, nameIndex := 286, descriptorIndex := 25, attributes := #[] }, { accessFlags := 25, nameIndex := 288, descriptorIndex := 25, attributes := #[] }, { accessFlags := 25, nameIndex := 290, descriptorIndex := 25, attributes := #[] }, { accessFlags := 25, nameIndex := 292, descriptorIndex := 25, attributes := #[] }, { accessFlags := 26, nameIndex := 108, descriptorIndex := 109, attributes := #[] }, { accessFlags := 25, nameIndex := 294, descriptorIndex := 25, attributes := #[] }])
  fields := #[{ name := "U", type := (.object "jdk/internal/misc/Unsafe"), accessFlags := 24, slot := 0, constantValue := 0 }, { name := "BIG_ENDIAN", type := .boolean, accessFlags := 26, slot := 1, constantValue := 0 }, { name := "LOG2_ARRAY_BOOLEAN_INDEX_SCALE", type := .int, accessFlags := 25, slot := 2, constantValue := 0 }, { name := "LOG2_ARRAY_BYTE_INDEX_SCALE", type := .int, accessFlags := 25, slot := 3, constantValue := 0 }, { name := "LOG2_ARRAY_CHAR_INDEX_SCALE", type := .int, accessFlags := 25, slot := 4, constantValue := 0 }, { name := "LOG2_ARRAY_SHORT_INDEX_SCALE", type := .int, accessFlags := 25, slot := 5, constantValue := 0 }, { name := "LOG2_ARRAY_INT_INDEX_SCALE", type := .int, accessFlags := 25, slot := 6, constantValue := 0 }, { name := "LOG2_ARRAY_LONG_INDEX_SCALE", type := .int, accessFlags := 25, slot := 7, constantValue := 0 }, { name := "LOG2_ARRAY_FLOAT_INDEX_SCALE", type := .int, accessFlags := 25, slot := 8, constantValue := 0 }, { name := "LOG2_ARRAY_DOUBLE_INDEX_SCALE", type := .int, accessFlags := 25, slot := 9, constantValue := 0 }, { name := "LOG2_BYTE_BIT_SIZE", type := .int, accessFlags := 26, slot := 10, constantValue := 0 }, { name := "T_BOOLEAN", type := .int, accessFlags := 25, slot := 11, constantValue := 0 }, { name := "T_CHAR", type := .int, accessFlags := 25, slot := 12, constantValue := 0 }, { name := "T_FLOAT", type := .int, accessFlags := 25, slot := 13, constantValue := 0 }, { name := "T_DOUBLE", type := .int, accessFlags := 25, slot := 14, constantValue := 0 }, { name := "T_BYTE", type := .int, accessFlags := 25, slot := 15, constantValue := 0 }, { name := "T_SHORT", type := .int, accessFlags := 25, slot := 16, constantValue := 0 }, { name := "T_INT", type := .int, accessFlags := 25, slot := 17, constantValue := 0 }, { name := "T_LONG", type := .int, accessFlags := 25, slot := 18, constantValue := 0 }, { name := "JLA", type := (.object "jdk/internal/access/JavaLangAccess"), accessFlags := 26, slot := 19, constantValue := 0 }, { name := "SOFT_MAX_ARRAY_LENGTH", type := .int, accessFlags := 25, slot := 20, constantValue := 0 }]
  methods := #[k18m0]
  instanceTypes := #[]
  staticTypes := #[(.object "jdk/internal/misc/Unsafe"), .boolean, .int, .int, .int, .int, .int, .int, .int, .int, .int, .int, .int, .int, .int, .int, .int, .int, .int, (.object "jdk/internal/access/JavaLangAccess"), .int]
  resolved := Array.replicate 378 none
  statics := none }

def pool19 : Array CpInfo := pool [(1, u "java/lang/Cloneable"), (0, .class_ 1), (0, u "java/lang/Object"), (0, .class_ 3)] 3

/-- java/lang/Cloneable -/
def k19 : Class := { plain "java/lang/Cloneable" (some 0) with
  accessFlags := 1537
  interfaces := #[]
  cf := some (fileOf pool19 2 #[] #[] 1537 4 #[] #[])
  fields := #[]
  methods := #[]
  instanceTypes := #[]
  staticTypes := #[]
  resolved := Array.replicate 8 none
  statics := none }

/-- the primitive byte -/
def k20 : Class := { plain "byte" none with kind := .primitive 'B', accessFlags := 0x411 }
/-- [B -/
def k21 : Class := { plain "[B" (some 0) with kind := .array 20 .byte, interfaces := #[19, 2], accessFlags := 1041 }

/-- the primitive char -/
def k22 : Class := { plain "char" none with kind := .primitive 'C', accessFlags := 0x411 }
/-- [C -/
def k23 : Class := { plain "[C" (some 0) with kind := .array 22 .char, interfaces := #[19, 2], accessFlags := 1041 }

/-- the primitive int -/
def k24 : Class := { plain "int" none with kind := .primitive 'I', accessFlags := 0x411 }
/-- [I -/
def k25 : Class := { plain "[I" (some 0) with kind := .array 24 .int, interfaces := #[19, 2], accessFlags := 1041 }

def heap : Heap := #[{ cls := 7, slots := #[.long 0, .int 1, .null, .int 0, .null, .int 0, .int 0], vm := .statics 7 },
  { cls := 9, slots := #[.int 0, .int 8, .int 0, .int 1], vm := .statics 9 },
  { cls := 17, slots := #[.null, .null, .null], vm := .statics 17 }]
def classes : Array Class := #[k0, k1, k2, k3, k4, k5, k6, k7, k8, k9, k10, k11, k12, k13, k14, k15, k16, k17, k18, k19, k20, k21, k22, k23, k24, k25]
def interned : List (Array UInt16 × Addr) := []
def slotsUsed : Nat := 14
def theMethod : MethodId := ⟨1, 1⟩
def args0 : Array Value := #[.int 4587585, .int 6422626, .int 6488164, .int 131071]
def aboutOver (below : List Frame) : State where
  vm := { classes := classes, interned := interned.toArray }
  heap := heap
  slotsUsed := slotsUsed
  threads := #[{ frames := .invoking theMethod args0 :: below }]
def below0 : List Frame := [.native { method := ⟨0, 0⟩, args := #[] }]
def about1 : State := aboutOver below0
def p0 : Program := .bare "" "" ""
def e0 : Env := launch0.env 0 0 0
theorem w_frames : about1.frames = Frame.invoking theMethod args0 :: below0 := rfl
set_option maxRecDepth 65536 in
theorem w_args : argsFit about1.vm theMethod args0 = true := by decide +kernel
set_option maxRecDepth 65536 in
theorem w_heap : heapFits about1 = true := by decide +kernel
set_option maxRecDepth 65536 in
theorem w_runnable : about1.curStatus? = some .runnable := by decide +kernel
set_option maxRecDepth 65536 in
theorem w_alone : about1.alone = true := by decide +kernel
set_option maxRecDepth 65536 in
theorem w_named : about1.methodNamed? x = some theMethod := by decide +kernel
set_option maxRecDepth 65536 in
theorem w_hears : about1.hears theMethod below0 = true := by decide +kernel
set_option maxRecDepth 65536 in
theorem w_ripe : about1.ripe theMethod args0 below0 = true := by decide +kernel
theorem w_running : about1.status = .running := rfl
set_option maxRecDepth 65536 in
theorem w_room : about1.hasRoom e0.platform room_1 = true :=
  launch0.hasRoom_least _ room_1 (by decide +kernel) (by decide +kernel) (by decide +kernel) (by decide +kernel) (by decide +kernel) (by decide +kernel)
theorem allAtoms_all (ts : List Jvm.Cond) (a : Array Jvm.Value) (st : Jvm.State) : (allAtoms ts).before a st = ts.all (fun c => c.before a st) := by
  induction ts with
  | nil => rfl
  | cons c t ih =>
    show (Jvm.Cond.and c (allAtoms t)).before a st = _
    rw [Jvm.Cond.before_and, ih, List.all_cons]
def words1 : List Jvm.Cond := Jvm.Cond.code x code maxLocals ret :: tables_1
/-- a 'code' word, met by the world's own term for the bytes: nothing is compared byte by byte -/
theorem code_word {y : MethodName} {bytes : ByteArray} {mx : Nat} {rt : Option FieldType} {a : Array Value} {s : State} {m : MethodId} {meth : Method} {c : Code} (h1 : s.methodNamed? y = some m) (h2 : s.vm.method? m = some meth) (h3 : meth.code = some c) (h4 : c.code = bytes)
    (h5 : (c.maxLocals == mx && c.exceptionTable.isEmpty && decide (c.maxStack ≤ mostOperands) && decide (meth.sig.returnType = rt) && !meth.locks && decide (parseMethodDescriptor y.desc = some meth.sig)) = true) : (Jvm.Cond.code y bytes mx rt).before a s = true := by
  simp only [Bool.and_eq_true, beq_iff_eq, Bool.not_eq_true', decide_eq_true_eq] at h5
  obtain ⟨⟨⟨⟨⟨g1, g2⟩, g3⟩, g4⟩, g5⟩, g6⟩ := h5
  simp [Cond.before, Cond.holds, Cond.value, h1, h2, h3, h4, g1, g2, g3, g4, g5, g6]
def isCode : Jvm.Cond → Bool
  | .code _ _ _ _ => true
  | _ => false
theorem all_split {L : List Jvm.Cond} {P : Jvm.Cond → Bool} (h1 : L.all (fun c => isCode c || P c) = true) (h2 : ∀ c ∈ L.filter isCode, P c = true) : L.all P = true := by
  refine List.all_eq_true.mpr fun c hc => ?_
  have h := List.all_eq_true.mp h1 c hc
  rcases Bool.eq_false_or_eq_true (isCode c) with hi | hi
  · exact h2 c (List.mem_filter.mpr ⟨hc, hi⟩)
  · simpa [hi] using h
set_option maxRecDepth 65536 in
theorem w_c0 : (Jvm.Cond.code x code maxLocals ret).before args0 about1 = true := code_word (m := ⟨1, 1⟩) (meth := k1m1) (c := k1c1) (by decide +kernel) rfl rfl rfl (by decide +kernel)
set_option maxRecDepth 65536 in
theorem w_c1 : (Jvm.Cond.code ({ cls := "java/lang/String", name := "valueOf", desc := "(C)Ljava/lang/String;" } : Jvm.MethodName) jdk_42_method_139_code (1 : Nat) (Option.some (Jvm.ClassFile.FieldType.object "java/lang/String"))).before args0 about1 = true := code_word (m := ⟨7, 5⟩) (meth := k7m5) (c := k7c5) (by decide +kernel) rfl rfl rfl (by decide +kernel)
set_option maxRecDepth 65536 in
theorem w_c2 : (Jvm.Cond.code ({ cls := "java/lang/StringLatin1", name := "canEncode", desc := "(C)Z" } : Jvm.MethodName) jdk_43_method_3_code (1 : Nat) (Option.some Jvm.ClassFile.FieldType.boolean)).before args0 about1 = true := code_word (m := ⟨8, 2⟩) (meth := k8m2) (c := k8c2) (by decide +kernel) rfl rfl rfl (by decide +kernel)
set_option maxRecDepth 65536 in
theorem w_c3 : (Jvm.Cond.code ({ cls := "java/lang/StringLatin1", name := "toBytes", desc := "(C)[B" } : Jvm.MethodName) jdk_43_method_46_code (1 : Nat) (Option.some (Jvm.ClassFile.FieldType.array Jvm.ClassFile.FieldType.byte))).before args0 about1 = true := code_word (m := ⟨8, 3⟩) (meth := k8m3) (c := k8c3) (by decide +kernel) rfl rfl rfl (by decide +kernel)
set_option maxRecDepth 65536 in
theorem w_c4 : (Jvm.Cond.code ({ cls := "java/lang/String", name := "<init>", desc := "([BB)V" } : Jvm.MethodName) jdk_42_method_151_code (3 : Nat) (Option.none : Option Jvm.ClassFile.FieldType)).before args0 about1 = true := code_word (m := ⟨7, 9⟩) (meth := k7m9) (c := k7c9) (by decide +kernel) rfl rfl rfl (by decide +kernel)
set_option maxRecDepth 65536 in
theorem w_c5 : (Jvm.Cond.code ({ cls := "java/lang/Object", name := "<init>", desc := "()V" } : Jvm.MethodName) object_method_1_code (1 : Nat) (Option.none : Option Jvm.ClassFile.FieldType)).before args0 about1 = true := code_word (m := ⟨0, 0⟩) (meth := k0m0) (c := k0c0) (by decide +kernel) rfl rfl rfl (by decide +kernel)
set_option maxRecDepth 65536 in
theorem w_c6 : (Jvm.Cond.code ({ cls := "java/lang/String", name := "<init>", desc := "([C)V" } : Jvm.MethodName) jdk_42_method_3_code (2 : Nat) (Option.none : Option Jvm.ClassFile.FieldType)).before args0 about1 = true := code_word (m := ⟨7, 1⟩) (meth := k7m1) (c := k7c1) (by decide +kernel) rfl rfl rfl (by decide +kernel)
set_option maxRecDepth 65536 in
theorem w_c7 : (Jvm.Cond.code ({ cls := "java/lang/String", name := "<init>", desc := "([CIILjava/lang/Void;)V" } : Jvm.MethodName) jdk_42_method_149_code (6 : Nat) (Option.none : Option Jvm.ClassFile.FieldType)).before args0 about1 = true := code_word (m := ⟨7, 7⟩) (meth := k7m7) (c := k7c7) (by decide +kernel) rfl rfl rfl (by decide +kernel)
set_option maxRecDepth 65536 in
theorem w_c8 : (Jvm.Cond.code ({ cls := "java/lang/StringUTF16", name := "compress", desc := "([CII)[B" } : Jvm.MethodName) jdk_52_method_16_code (6 : Nat) (Option.some (Jvm.ClassFile.FieldType.array Jvm.ClassFile.FieldType.byte))).before args0 about1 = true := code_word (m := ⟨9, 8⟩) (meth := k9m8) (c := k9c8) (by decide +kernel) rfl rfl rfl (by decide +kernel)
set_option maxRecDepth 65536 in
theorem w_c9 : (Jvm.Cond.code ({ cls := "java/lang/StringUTF16", name := "compress", desc := "([CI[BII)I" } : Jvm.MethodName) jdk_52_method_21_code (7 : Nat) (Option.some Jvm.ClassFile.FieldType.int)).before args0 about1 = true := code_word (m := ⟨9, 9⟩) (meth := k9m9) (c := k9c9) (by decide +kernel) rfl rfl rfl (by decide +kernel)
set_option maxRecDepth 65536 in
theorem w_c10 : (Jvm.Cond.code ({ cls := "java/lang/StringUTF16", name := "coderFromArrayLen", desc := "([BI)B" } : Jvm.MethodName) jdk_52_method_15_code (2 : Nat) (Option.some Jvm.ClassFile.FieldType.byte)).before args0 about1 = true := code_word (m := ⟨9, 7⟩) (meth := k9m7) (c := k9c7) (by decide +kernel) rfl rfl rfl (by decide +kernel)
set_option maxRecDepth 65536 in
theorem w_c11 : (Jvm.Cond.code ({ cls := "com/example/hash4/hash4/canonical/CanonicalUrl", name := "<init>", desc := "(Ljava/lang/String;Ljava/lang/String;ZLjava/lang/String;Ljava/lang/String;)V" } : Jvm.MethodName) prog_1_method_1_code (6 : Nat) (Option.none : Option Jvm.ClassFile.FieldType)).before args0 about1 = true := code_word (m := ⟨10, 0⟩) (meth := k10m0) (c := k10c0) (by decide +kernel) rfl rfl rfl (by decide +kernel)
set_option maxRecDepth 65536 in
theorem w_c12 : (Jvm.Cond.code ({ cls := "com/example/hash4/hash4/canonical/CanonicalUrl", name := "toString", desc := "()Ljava/lang/String;" } : Jvm.MethodName) prog_1_method_7_code (2 : Nat) (Option.some (Jvm.ClassFile.FieldType.object "java/lang/String"))).before args0 about1 = true := code_word (m := ⟨10, 1⟩) (meth := k10m1) (c := k10c1) (by decide +kernel) rfl rfl rfl (by decide +kernel)
set_option maxRecDepth 65536 in
theorem w_c13 : (Jvm.Cond.code ({ cls := "java/lang/StringBuilder", name := "<init>", desc := "()V" } : Jvm.MethodName) jdk_67_method_1_code (1 : Nat) (Option.none : Option Jvm.ClassFile.FieldType)).before args0 about1 = true := code_word (m := ⟨13, 0⟩) (meth := k13m0) (c := k13c0) (by decide +kernel) rfl rfl rfl (by decide +kernel)
set_option maxRecDepth 65536 in
theorem w_c14 : (Jvm.Cond.code ({ cls := "java/lang/AbstractStringBuilder", name := "<init>", desc := "(I)V" } : Jvm.MethodName) jdk_68_method_2_code (2 : Nat) (Option.none : Option Jvm.ClassFile.FieldType)).before args0 about1 = true := code_word (m := ⟨12, 1⟩) (meth := k12m1) (c := k12c1) (by decide +kernel) rfl rfl rfl (by decide +kernel)
set_option maxRecDepth 65536 in
theorem w_c15 : (Jvm.Cond.code ({ cls := "java/lang/StringBuilder", name := "append", desc := "(Ljava/lang/String;)Ljava/lang/StringBuilder;" } : Jvm.MethodName) jdk_67_method_7_code (2 : Nat) (Option.some (Jvm.ClassFile.FieldType.object "java/lang/StringBuilder"))).before args0 about1 = true := code_word (m := ⟨13, 1⟩) (meth := k13m1) (c := k13c1) (by decide +kernel) rfl rfl rfl (by decide +kernel)
set_option maxRecDepth 65536 in
theorem w_c16 : (Jvm.Cond.code ({ cls := "java/lang/AbstractStringBuilder", name := "append", desc := "(Ljava/lang/String;)Ljava/lang/AbstractStringBuilder;" } : Jvm.MethodName) jdk_68_method_22_code (3 : Nat) (Option.some (Jvm.ClassFile.FieldType.object "java/lang/AbstractStringBuilder"))).before args0 about1 = true := code_word (m := ⟨12, 5⟩) (meth := k12m5) (c := k12c5) (by decide +kernel) rfl rfl rfl (by decide +kernel)
set_option maxRecDepth 65536 in
theorem w_c17 : (Jvm.Cond.code ({ cls := "java/lang/String", name := "length", desc := "()I" } : Jvm.MethodName) jdk_42_method_54_code (1 : Nat) (Option.some Jvm.ClassFile.FieldType.int)).before args0 about1 = true := code_word (m := ⟨7, 3⟩) (meth := k7m3) (c := k7c3) (by decide +kernel) rfl rfl rfl (by decide +kernel)
set_option maxRecDepth 65536 in
theorem w_c18 : (Jvm.Cond.code ({ cls := "java/lang/String", name := "coder", desc := "()B" } : Jvm.MethodName) jdk_42_method_152_code (1 : Nat) (Option.some Jvm.ClassFile.FieldType.byte)).before args0 about1 = true := code_word (m := ⟨7, 10⟩) (meth := k7m10) (c := k7c10) (by decide +kernel) rfl rfl rfl (by decide +kernel)
set_option maxRecDepth 65536 in
theorem w_c19 : (Jvm.Cond.code ({ cls := "java/lang/AbstractStringBuilder", name := "ensureCapacityInternal", desc := "(I)V" } : Jvm.MethodName) jdk_68_method_9_code (3 : Nat) (Option.none : Option Jvm.ClassFile.FieldType)).before args0 about1 = true := code_word (m := ⟨12, 3⟩) (meth := k12m3) (c := k12c3) (by decide +kernel) rfl rfl rfl (by decide +kernel)
set_option maxRecDepth 65536 in
theorem w_c20 : (Jvm.Cond.code ({ cls := "java/lang/AbstractStringBuilder", name := "putStringAt", desc := "(ILjava/lang/String;)V" } : Jvm.MethodName) jdk_68_method_73_code (3 : Nat) (Option.none : Option Jvm.ClassFile.FieldType)).before args0 about1 = true := code_word (m := ⟨12, 9⟩) (meth := k12m9) (c := k12c9) (by decide +kernel) rfl rfl rfl (by decide +kernel)
set_option maxRecDepth 65536 in
theorem w_c21 : (Jvm.Cond.code ({ cls := "java/lang/AbstractStringBuilder", name := "inflateIfNeededFor", desc := "(Ljava/lang/String;)V" } : Jvm.MethodName) jdk_68_method_71_code (2 : Nat) (Option.none : Option Jvm.ClassFile.FieldType)).before args0 about1 = true := code_word (m := ⟨12, 8⟩) (meth := k12m8) (c := k12c8) (by decide +kernel) rfl rfl rfl (by decide +kernel)
set_option maxRecDepth 65536 in
theorem w_c22 : (Jvm.Cond.code ({ cls := "java/lang/String", name := "getBytes", desc := "([BIB)V" } : Jvm.MethodName) jdk_42_method_147_code (4 : Nat) (Option.none : Option Jvm.ClassFile.FieldType)).before args0 about1 = true := code_word (m := ⟨7, 6⟩) (meth := k7m6) (c := k7c6) (by decide +kernel) rfl rfl rfl (by decide +kernel)
set_option maxRecDepth 65536 in
theorem w_c23 : (Jvm.Cond.code ({ cls := "java/lang/StringBuilder", name := "toString", desc := "()Ljava/lang/String;" } : Jvm.MethodName) jdk_67_method_42_code (1 : Nat) (Option.some (Jvm.ClassFile.FieldType.object "java/lang/String"))).before args0 about1 = true := code_word (m := ⟨13, 2⟩) (meth := k13m2) (c := k13c2) (by decide +kernel) rfl rfl rfl (by decide +kernel)
set_option maxRecDepth 65536 in
theorem w_c24 : (Jvm.Cond.code ({ cls := "java/lang/String", name := "<init>", desc := "(Ljava/lang/StringBuilder;)V" } : Jvm.MethodName) jdk_42_method_53_code (2 : Nat) (Option.none : Option Jvm.ClassFile.FieldType)).before args0 about1 = true := code_word (m := ⟨7, 2⟩) (meth := k7m2) (c := k7c2) (by decide +kernel) rfl rfl rfl (by decide +kernel)
set_option maxRecDepth 65536 in
theorem w_c25 : (Jvm.Cond.code ({ cls := "java/lang/String", name := "<init>", desc := "(Ljava/lang/AbstractStringBuilder;Ljava/lang/Void;)V" } : Jvm.MethodName) jdk_42_method_150_code (5 : Nat) (Option.none : Option Jvm.ClassFile.FieldType)).before args0 about1 = true := code_word (m := ⟨7, 8⟩) (meth := k7m8) (c := k7c8) (by decide +kernel) rfl rfl rfl (by decide +kernel)
set_option maxRecDepth 65536 in
theorem w_c26 : (Jvm.Cond.code ({ cls := "java/lang/AbstractStringBuilder", name := "getValue", desc := "()[B" } : Jvm.MethodName) jdk_68_method_64_code (1 : Nat) (Option.some (Jvm.ClassFile.FieldType.array Jvm.ClassFile.FieldType.byte))).before args0 about1 = true := code_word (m := ⟨12, 6⟩) (meth := k12m6) (c := k12c6) (by decide +kernel) rfl rfl rfl (by decide +kernel)
set_option maxRecDepth 65536 in
theorem w_c27 : (Jvm.Cond.code ({ cls := "java/lang/StringBuilder", name := "length", desc := "()I" } : Jvm.MethodName) jdk_67_method_93_code (1 : Nat) (Option.some Jvm.ClassFile.FieldType.int)).before args0 about1 = true := code_word (m := ⟨13, 3⟩) (meth := k13m3) (c := k13c3) (by decide +kernel) rfl rfl rfl (by decide +kernel)
set_option maxRecDepth 65536 in
theorem w_c28 : (Jvm.Cond.code ({ cls := "java/lang/AbstractStringBuilder", name := "length", desc := "()I" } : Jvm.MethodName) jdk_68_method_6_code (1 : Nat) (Option.some Jvm.ClassFile.FieldType.int)).before args0 about1 = true := code_word (m := ⟨12, 2⟩) (meth := k12m2) (c := k12c2) (by decide +kernel) rfl rfl rfl (by decide +kernel)
set_option maxRecDepth 65536 in
theorem w_c29 : (Jvm.Cond.code ({ cls := "java/lang/AbstractStringBuilder", name := "isLatin1", desc := "()Z" } : Jvm.MethodName) jdk_68_method_68_code (1 : Nat) (Option.some Jvm.ClassFile.FieldType.boolean)).before args0 about1 = true := code_word (m := ⟨12, 7⟩) (meth := k12m7) (c := k12c7) (by decide +kernel) rfl rfl rfl (by decide +kernel)
set_option maxRecDepth 65536 in
theorem w_c30 : (Jvm.Cond.code ({ cls := "java/util/Arrays", name := "copyOfRange", desc := "([BII)[B" } : Jvm.MethodName) jdk_65_method_132_code (3 : Nat) (Option.some (Jvm.ClassFile.FieldType.array Jvm.ClassFile.FieldType.byte))).before args0 about1 = true := code_word (m := ⟨15, 2⟩) (meth := k15m2) (c := k15c2) (by decide +kernel) rfl rfl rfl (by decide +kernel)
set_option maxRecDepth 65536 in
theorem w_c31 : (Jvm.Cond.code ({ cls := "java/util/Arrays", name := "copyOfRangeByte", desc := "([BII)[B" } : Jvm.MethodName) jdk_65_method_133_code (5 : Nat) (Option.some (Jvm.ClassFile.FieldType.array Jvm.ClassFile.FieldType.byte))).before args0 about1 = true := code_word (m := ⟨15, 3⟩) (meth := k15m3) (c := k15c3) (by decide +kernel) rfl rfl rfl (by decide +kernel)
set_option maxRecDepth 65536 in
theorem w_c32 : (Jvm.Cond.code ({ cls := "java/util/Arrays", name := "checkLength", desc := "(II)V" } : Jvm.MethodName) jdk_65_method_131_code (2 : Nat) (Option.none : Option Jvm.ClassFile.FieldType)).before args0 about1 = true := code_word (m := ⟨15, 1⟩) (meth := k15m1) (c := k15c1) (by decide +kernel) rfl rfl rfl (by decide +kernel)
set_option maxRecDepth 65536 in
theorem w_c33 : (Jvm.Cond.code ({ cls := "java/lang/Math", name := "min", desc := "(II)I" } : Jvm.MethodName) jdk_29_method_69_code (2 : Nat) (Option.some Jvm.ClassFile.FieldType.int)).before args0 about1 = true := code_word (m := ⟨16, 1⟩) (meth := k16m1) (c := k16c1) (by decide +kernel) rfl rfl rfl (by decide +kernel)
set_option maxRecDepth 65536 in
theorem w_c34 : (Jvm.Cond.code ({ cls := "com/example/hash4/hash4/canonical/CanonicalUrlToStringPinLaw", name := "at", desc := "(Ljava/lang/String;[CII)Z" } : Jvm.MethodName) method_3_code (4 : Nat) (Option.some Jvm.ClassFile.FieldType.boolean)).before args0 about1 = true := code_word (m := ⟨1, 2⟩) (meth := k1m2) (c := k1c2) (by decide +kernel) rfl rfl rfl (by decide +kernel)
set_option maxRecDepth 65536 in
theorem w_c35 : (Jvm.Cond.code ({ cls := "java/lang/String", name := "charAt", desc := "(I)C" } : Jvm.MethodName) jdk_42_method_56_code (2 : Nat) (Option.some Jvm.ClassFile.FieldType.char)).before args0 about1 = true := code_word (m := ⟨7, 4⟩) (meth := k7m4) (c := k7c4) (by decide +kernel) rfl rfl rfl (by decide +kernel)
set_option maxRecDepth 65536 in
theorem w_c36 : (Jvm.Cond.code ({ cls := "java/lang/String", name := "isLatin1", desc := "()Z" } : Jvm.MethodName) jdk_42_method_154_code (1 : Nat) (Option.some Jvm.ClassFile.FieldType.boolean)).before args0 about1 = true := code_word (m := ⟨7, 11⟩) (meth := k7m11) (c := k7c11) (by decide +kernel) rfl rfl rfl (by decide +kernel)
set_option maxRecDepth 65536 in
theorem w_c37 : (Jvm.Cond.code ({ cls := "java/lang/StringLatin1", name := "charAt", desc := "([BI)C" } : Jvm.MethodName) jdk_43_method_2_code (2 : Nat) (Option.some Jvm.ClassFile.FieldType.char)).before args0 about1 = true := code_word (m := ⟨8, 1⟩) (meth := k8m1) (c := k8c1) (by decide +kernel) rfl rfl rfl (by decide +kernel)
set_option maxRecDepth 65536 in
theorem w_c38 : (Jvm.Cond.code ({ cls := "java/lang/String", name := "checkIndex", desc := "(II)V" } : Jvm.MethodName) jdk_42_method_155_code (2 : Nat) (Option.none : Option Jvm.ClassFile.FieldType)).before args0 about1 = true := code_word (m := ⟨7, 12⟩) (meth := k7m12) (c := k7c12) (by decide +kernel) rfl rfl rfl (by decide +kernel)
set_option maxRecDepth 65536 in
theorem w_c39 : (Jvm.Cond.code ({ cls := "jdk/internal/util/Preconditions", name := "checkIndex", desc := "(IILjava/util/function/BiFunction;)I" } : Jvm.MethodName) jdk_41_method_11_code (3 : Nat) (Option.some Jvm.ClassFile.FieldType.int)).before args0 about1 = true := code_word (m := ⟨17, 1⟩) (meth := k17m1) (c := k17c1) (by decide +kernel) rfl rfl rfl (by decide +kernel)
set_option maxRecDepth 65536 in
theorem w_c40 : (Jvm.Cond.code ({ cls := "java/lang/StringUTF16", name := "toBytes", desc := "(C)[B" } : Jvm.MethodName) jdk_52_method_24_code (2 : Nat) (Option.some (Jvm.ClassFile.FieldType.array Jvm.ClassFile.FieldType.byte))).before args0 about1 = true := code_word (m := ⟨9, 10⟩) (meth := k9m10) (c := k9c10) (by decide +kernel) rfl rfl rfl (by decide +kernel)
set_option maxRecDepth 65536 in
theorem w_c41 : (Jvm.Cond.code ({ cls := "java/lang/StringUTF16", name := "putChar", desc := "([BII)V" } : Jvm.MethodName) jdk_52_method_4_code (3 : Nat) (Option.none : Option Jvm.ClassFile.FieldType)).before args0 about1 = true := code_word (m := ⟨9, 3⟩) (meth := k9m3) (c := k9c3) (by decide +kernel) rfl rfl rfl (by decide +kernel)
set_option maxRecDepth 65536 in
theorem w_c42 : (Jvm.Cond.code ({ cls := "java/lang/StringUTF16", name := "toBytes", desc := "([CII)[B" } : Jvm.MethodName) jdk_52_method_14_code (5 : Nat) (Option.some (Jvm.ClassFile.FieldType.array Jvm.ClassFile.FieldType.byte))).before args0 about1 = true := code_word (m := ⟨9, 6⟩) (meth := k9m6) (c := k9c6) (by decide +kernel) rfl rfl rfl (by decide +kernel)
set_option maxRecDepth 65536 in
theorem w_c43 : (Jvm.Cond.code ({ cls := "java/lang/StringUTF16", name := "newBytesFor", desc := "(I)[B" } : Jvm.MethodName) jdk_52_method_2_code (1 : Nat) (Option.some (Jvm.ClassFile.FieldType.array Jvm.ClassFile.FieldType.byte))).before args0 about1 = true := code_word (m := ⟨9, 1⟩) (meth := k9m1) (c := k9c1) (by decide +kernel) rfl rfl rfl (by decide +kernel)
set_option maxRecDepth 65536 in
theorem w_c44 : (Jvm.Cond.code ({ cls := "java/lang/StringUTF16", name := "newBytesLength", desc := "(I)I" } : Jvm.MethodName) jdk_52_method_3_code (1 : Nat) (Option.some Jvm.ClassFile.FieldType.int)).before args0 about1 = true := code_word (m := ⟨9, 2⟩) (meth := k9m2) (c := k9c2) (by decide +kernel) rfl rfl rfl (by decide +kernel)
set_option maxRecDepth 65536 in
theorem w_c45 : (Jvm.Cond.code ({ cls := "java/lang/StringUTF16", name := "getChar", desc := "([BI)C" } : Jvm.MethodName) jdk_52_method_5_code (2 : Nat) (Option.some Jvm.ClassFile.FieldType.char)).before args0 about1 = true := code_word (m := ⟨9, 4⟩) (meth := k9m4) (c := k9c4) (by decide +kernel) rfl rfl rfl (by decide +kernel)
set_option maxRecDepth 65536 in
theorem w_c46 : (Jvm.Cond.code ({ cls := "java/lang/AbstractStringBuilder", name := "inflate", desc := "()V" } : Jvm.MethodName) jdk_68_method_11_code (2 : Nat) (Option.none : Option Jvm.ClassFile.FieldType)).before args0 about1 = true := code_word (m := ⟨12, 4⟩) (meth := k12m4) (c := k12c4) (by decide +kernel) rfl rfl rfl (by decide +kernel)
set_option maxRecDepth 65536 in
theorem w_c47 : (Jvm.Cond.code ({ cls := "java/lang/StringLatin1", name := "inflate", desc := "([BI[BII)V" } : Jvm.MethodName) jdk_43_method_50_code (5 : Nat) (Option.none : Option Jvm.ClassFile.FieldType)).before args0 about1 = true := code_word (m := ⟨8, 4⟩) (meth := k8m4) (c := k8c4) (by decide +kernel) rfl rfl rfl (by decide +kernel)
set_option maxRecDepth 65536 in
theorem w_c48 : (Jvm.Cond.code ({ cls := "java/lang/StringUTF16", name := "inflate", desc := "([BI[BII)V" } : Jvm.MethodName) jdk_52_method_86_code (6 : Nat) (Option.none : Option Jvm.ClassFile.FieldType)).before args0 about1 = true := code_word (m := ⟨9, 12⟩) (meth := k9m12) (c := k9c12) (by decide +kernel) rfl rfl rfl (by decide +kernel)
set_option maxRecDepth 65536 in
theorem w_c49 : (Jvm.Cond.code ({ cls := "java/lang/StringUTF16", name := "checkBoundsOffCount", desc := "(II[B)V" } : Jvm.MethodName) jdk_52_method_94_code (3 : Nat) (Option.none : Option Jvm.ClassFile.FieldType)).before args0 about1 = true := code_word (m := ⟨9, 14⟩) (meth := k9m14) (c := k9c14) (by decide +kernel) rfl rfl rfl (by decide +kernel)
set_option maxRecDepth 65536 in
theorem w_c50 : (Jvm.Cond.code ({ cls := "java/lang/StringUTF16", name := "length", desc := "([B)I" } : Jvm.MethodName) jdk_52_method_6_code (1 : Nat) (Option.some Jvm.ClassFile.FieldType.int)).before args0 about1 = true := code_word (m := ⟨9, 5⟩) (meth := k9m5) (c := k9c5) (by decide +kernel) rfl rfl rfl (by decide +kernel)
set_option maxRecDepth 65536 in
theorem w_c51 : (Jvm.Cond.code ({ cls := "java/lang/String", name := "checkBoundsOffCount", desc := "(III)I" } : Jvm.MethodName) jdk_42_method_157_code (3 : Nat) (Option.some Jvm.ClassFile.FieldType.int)).before args0 about1 = true := code_word (m := ⟨7, 13⟩) (meth := k7m13) (c := k7c13) (by decide +kernel) rfl rfl rfl (by decide +kernel)
set_option maxRecDepth 65536 in
theorem w_c52 : (Jvm.Cond.code ({ cls := "jdk/internal/util/Preconditions", name := "checkFromIndexSize", desc := "(IIILjava/util/function/BiFunction;)I" } : Jvm.MethodName) jdk_41_method_13_code (4 : Nat) (Option.some Jvm.ClassFile.FieldType.int)).before args0 about1 = true := code_word (m := ⟨17, 2⟩) (meth := k17m2) (c := k17c2) (by decide +kernel) rfl rfl rfl (by decide +kernel)
set_option maxRecDepth 65536 in
theorem w_c53 : (Jvm.Cond.code ({ cls := "java/lang/StringUTF16", name := "charAt", desc := "([BI)C" } : Jvm.MethodName) jdk_52_method_83_code (2 : Nat) (Option.some Jvm.ClassFile.FieldType.char)).before args0 about1 = true := code_word (m := ⟨9, 11⟩) (meth := k9m11) (c := k9c11) (by decide +kernel) rfl rfl rfl (by decide +kernel)
set_option maxRecDepth 65536 in
theorem w_c54 : (Jvm.Cond.code ({ cls := "java/lang/StringUTF16", name := "checkIndex", desc := "(I[B)V" } : Jvm.MethodName) jdk_52_method_91_code (2 : Nat) (Option.none : Option Jvm.ClassFile.FieldType)).before args0 about1 = true := code_word (m := ⟨9, 13⟩) (meth := k9m13) (c := k9c13) (by decide +kernel) rfl rfl rfl (by decide +kernel)
def codes1 : List Jvm.Cond := [Jvm.Cond.code x code maxLocals ret, Jvm.Cond.code ({ cls := "java/lang/String", name := "valueOf", desc := "(C)Ljava/lang/String;" } : Jvm.MethodName) jdk_42_method_139_code (1 : Nat) (Option.some (Jvm.ClassFile.FieldType.object "java/lang/String")), Jvm.Cond.code ({ cls := "java/lang/StringLatin1", name := "canEncode", desc := "(C)Z" } : Jvm.MethodName) jdk_43_method_3_code (1 : Nat) (Option.some Jvm.ClassFile.FieldType.boolean), Jvm.Cond.code ({ cls := "java/lang/StringLatin1", name := "toBytes", desc := "(C)[B" } : Jvm.MethodName) jdk_43_method_46_code (1 : Nat) (Option.some (Jvm.ClassFile.FieldType.array Jvm.ClassFile.FieldType.byte)), Jvm.Cond.code ({ cls := "java/lang/String", name := "<init>", desc := "([BB)V" } : Jvm.MethodName) jdk_42_method_151_code (3 : Nat) (Option.none : Option Jvm.ClassFile.FieldType), Jvm.Cond.code ({ cls := "java/lang/Object", name := "<init>", desc := "()V" } : Jvm.MethodName) object_method_1_code (1 : Nat) (Option.none : Option Jvm.ClassFile.FieldType), Jvm.Cond.code ({ cls := "java/lang/String", name := "<init>", desc := "([C)V" } : Jvm.MethodName) jdk_42_method_3_code (2 : Nat) (Option.none : Option Jvm.ClassFile.FieldType), Jvm.Cond.code ({ cls := "java/lang/String", name := "<init>", desc := "([CIILjava/lang/Void;)V" } : Jvm.MethodName) jdk_42_method_149_code (6 : Nat) (Option.none : Option Jvm.ClassFile.FieldType), Jvm.Cond.code ({ cls := "java/lang/StringUTF16", name := "compress", desc := "([CII)[B" } : Jvm.MethodName) jdk_52_method_16_code (6 : Nat) (Option.some (Jvm.ClassFile.FieldType.array Jvm.ClassFile.FieldType.byte)), Jvm.Cond.code ({ cls := "java/lang/StringUTF16", name := "compress", desc := "([CI[BII)I" } : Jvm.MethodName) jdk_52_method_21_code (7 : Nat) (Option.some Jvm.ClassFile.FieldType.int), Jvm.Cond.code ({ cls := "java/lang/StringUTF16", name := "coderFromArrayLen", desc := "([BI)B" } : Jvm.MethodName) jdk_52_method_15_code (2 : Nat) (Option.some Jvm.ClassFile.FieldType.byte), Jvm.Cond.code ({ cls := "com/example/hash4/hash4/canonical/CanonicalUrl", name := "<init>", desc := "(Ljava/lang/String;Ljava/lang/String;ZLjava/lang/String;Ljava/lang/String;)V" } : Jvm.MethodName) prog_1_method_1_code (6 : Nat) (Option.none : Option Jvm.ClassFile.FieldType), Jvm.Cond.code ({ cls := "com/example/hash4/hash4/canonical/CanonicalUrl", name := "toString", desc := "()Ljava/lang/String;" } : Jvm.MethodName) prog_1_method_7_code (2 : Nat) (Option.some (Jvm.ClassFile.FieldType.object "java/lang/String")), Jvm.Cond.code ({ cls := "java/lang/StringBuilder", name := "<init>", desc := "()V" } : Jvm.MethodName) jdk_67_method_1_code (1 : Nat) (Option.none : Option Jvm.ClassFile.FieldType), Jvm.Cond.code ({ cls := "java/lang/AbstractStringBuilder", name := "<init>", desc := "(I)V" } : Jvm.MethodName) jdk_68_method_2_code (2 : Nat) (Option.none : Option Jvm.ClassFile.FieldType), Jvm.Cond.code ({ cls := "java/lang/StringBuilder", name := "append", desc := "(Ljava/lang/String;)Ljava/lang/StringBuilder;" } : Jvm.MethodName) jdk_67_method_7_code (2 : Nat) (Option.some (Jvm.ClassFile.FieldType.object "java/lang/StringBuilder")), Jvm.Cond.code ({ cls := "java/lang/AbstractStringBuilder", name := "append", desc := "(Ljava/lang/String;)Ljava/lang/AbstractStringBuilder;" } : Jvm.MethodName) jdk_68_method_22_code (3 : Nat) (Option.some (Jvm.ClassFile.FieldType.object "java/lang/AbstractStringBuilder")), Jvm.Cond.code ({ cls := "java/lang/String", name := "length", desc := "()I" } : Jvm.MethodName) jdk_42_method_54_code (1 : Nat) (Option.some Jvm.ClassFile.FieldType.int), Jvm.Cond.code ({ cls := "java/lang/String", name := "coder", desc := "()B" } : Jvm.MethodName) jdk_42_method_152_code (1 : Nat) (Option.some Jvm.ClassFile.FieldType.byte), Jvm.Cond.code ({ cls := "java/lang/AbstractStringBuilder", name := "ensureCapacityInternal", desc := "(I)V" } : Jvm.MethodName) jdk_68_method_9_code (3 : Nat) (Option.none : Option Jvm.ClassFile.FieldType), Jvm.Cond.code ({ cls := "java/lang/AbstractStringBuilder", name := "putStringAt", desc := "(ILjava/lang/String;)V" } : Jvm.MethodName) jdk_68_method_73_code (3 : Nat) (Option.none : Option Jvm.ClassFile.FieldType), Jvm.Cond.code ({ cls := "java/lang/AbstractStringBuilder", name := "inflateIfNeededFor", desc := "(Ljava/lang/String;)V" } : Jvm.MethodName) jdk_68_method_71_code (2 : Nat) (Option.none : Option Jvm.ClassFile.FieldType), Jvm.Cond.code ({ cls := "java/lang/String", name := "getBytes", desc := "([BIB)V" } : Jvm.MethodName) jdk_42_method_147_code (4 : Nat) (Option.none : Option Jvm.ClassFile.FieldType), Jvm.Cond.code ({ cls := "java/lang/StringBuilder", name := "toString", desc := "()Ljava/lang/String;" } : Jvm.MethodName) jdk_67_method_42_code (1 : Nat) (Option.some (Jvm.ClassFile.FieldType.object "java/lang/String")), Jvm.Cond.code ({ cls := "java/lang/String", name := "<init>", desc := "(Ljava/lang/StringBuilder;)V" } : Jvm.MethodName) jdk_42_method_53_code (2 : Nat) (Option.none : Option Jvm.ClassFile.FieldType), Jvm.Cond.code ({ cls := "java/lang/String", name := "<init>", desc := "(Ljava/lang/AbstractStringBuilder;Ljava/lang/Void;)V" } : Jvm.MethodName) jdk_42_method_150_code (5 : Nat) (Option.none : Option Jvm.ClassFile.FieldType), Jvm.Cond.code ({ cls := "java/lang/AbstractStringBuilder", name := "getValue", desc := "()[B" } : Jvm.MethodName) jdk_68_method_64_code (1 : Nat) (Option.some (Jvm.ClassFile.FieldType.array Jvm.ClassFile.FieldType.byte)), Jvm.Cond.code ({ cls := "java/lang/StringBuilder", name := "length", desc := "()I" } : Jvm.MethodName) jdk_67_method_93_code (1 : Nat) (Option.some Jvm.ClassFile.FieldType.int), Jvm.Cond.code ({ cls := "java/lang/AbstractStringBuilder", name := "length", desc := "()I" } : Jvm.MethodName) jdk_68_method_6_code (1 : Nat) (Option.some Jvm.ClassFile.FieldType.int), Jvm.Cond.code ({ cls := "java/lang/AbstractStringBuilder", name := "isLatin1", desc := "()Z" } : Jvm.MethodName) jdk_68_method_68_code (1 : Nat) (Option.some Jvm.ClassFile.FieldType.boolean), Jvm.Cond.code ({ cls := "java/util/Arrays", name := "copyOfRange", desc := "([BII)[B" } : Jvm.MethodName) jdk_65_method_132_code (3 : Nat) (Option.some (Jvm.ClassFile.FieldType.array Jvm.ClassFile.FieldType.byte)), Jvm.Cond.code ({ cls := "java/util/Arrays", name := "copyOfRangeByte", desc := "([BII)[B" } : Jvm.MethodName) jdk_65_method_133_code (5 : Nat) (Option.some (Jvm.ClassFile.FieldType.array Jvm.ClassFile.FieldType.byte)), Jvm.Cond.code ({ cls := "java/util/Arrays", name := "checkLength", desc := "(II)V" } : Jvm.MethodName) jdk_65_method_131_code (2 : Nat) (Option.none : Option Jvm.ClassFile.FieldType), Jvm.Cond.code ({ cls := "java/lang/Math", name := "min", desc := "(II)I" } : Jvm.MethodName) jdk_29_method_69_code (2 : Nat) (Option.some Jvm.ClassFile.FieldType.int), Jvm.Cond.code ({ cls := "com/example/hash4/hash4/canonical/CanonicalUrlToStringPinLaw", name := "at", desc := "(Ljava/lang/String;[CII)Z" } : Jvm.MethodName) method_3_code (4 : Nat) (Option.some Jvm.ClassFile.FieldType.boolean), Jvm.Cond.code ({ cls := "java/lang/String", name := "charAt", desc := "(I)C" } : Jvm.MethodName) jdk_42_method_56_code (2 : Nat) (Option.some Jvm.ClassFile.FieldType.char), Jvm.Cond.code ({ cls := "java/lang/String", name := "isLatin1", desc := "()Z" } : Jvm.MethodName) jdk_42_method_154_code (1 : Nat) (Option.some Jvm.ClassFile.FieldType.boolean), Jvm.Cond.code ({ cls := "java/lang/StringLatin1", name := "charAt", desc := "([BI)C" } : Jvm.MethodName) jdk_43_method_2_code (2 : Nat) (Option.some Jvm.ClassFile.FieldType.char), Jvm.Cond.code ({ cls := "java/lang/String", name := "checkIndex", desc := "(II)V" } : Jvm.MethodName) jdk_42_method_155_code (2 : Nat) (Option.none : Option Jvm.ClassFile.FieldType), Jvm.Cond.code ({ cls := "jdk/internal/util/Preconditions", name := "checkIndex", desc := "(IILjava/util/function/BiFunction;)I" } : Jvm.MethodName) jdk_41_method_11_code (3 : Nat) (Option.some Jvm.ClassFile.FieldType.int), Jvm.Cond.code ({ cls := "java/lang/StringUTF16", name := "toBytes", desc := "(C)[B" } : Jvm.MethodName) jdk_52_method_24_code (2 : Nat) (Option.some (Jvm.ClassFile.FieldType.array Jvm.ClassFile.FieldType.byte)), Jvm.Cond.code ({ cls := "java/lang/StringUTF16", name := "putChar", desc := "([BII)V" } : Jvm.MethodName) jdk_52_method_4_code (3 : Nat) (Option.none : Option Jvm.ClassFile.FieldType), Jvm.Cond.code ({ cls := "java/lang/StringUTF16", name := "toBytes", desc := "([CII)[B" } : Jvm.MethodName) jdk_52_method_14_code (5 : Nat) (Option.some (Jvm.ClassFile.FieldType.array Jvm.ClassFile.FieldType.byte)), Jvm.Cond.code ({ cls := "java/lang/StringUTF16", name := "newBytesFor", desc := "(I)[B" } : Jvm.MethodName) jdk_52_method_2_code (1 : Nat) (Option.some (Jvm.ClassFile.FieldType.array Jvm.ClassFile.FieldType.byte)), Jvm.Cond.code ({ cls := "java/lang/StringUTF16", name := "newBytesLength", desc := "(I)I" } : Jvm.MethodName) jdk_52_method_3_code (1 : Nat) (Option.some Jvm.ClassFile.FieldType.int), Jvm.Cond.code ({ cls := "java/lang/StringUTF16", name := "getChar", desc := "([BI)C" } : Jvm.MethodName) jdk_52_method_5_code (2 : Nat) (Option.some Jvm.ClassFile.FieldType.char), Jvm.Cond.code ({ cls := "java/lang/AbstractStringBuilder", name := "inflate", desc := "()V" } : Jvm.MethodName) jdk_68_method_11_code (2 : Nat) (Option.none : Option Jvm.ClassFile.FieldType), Jvm.Cond.code ({ cls := "java/lang/StringLatin1", name := "inflate", desc := "([BI[BII)V" } : Jvm.MethodName) jdk_43_method_50_code (5 : Nat) (Option.none : Option Jvm.ClassFile.FieldType), Jvm.Cond.code ({ cls := "java/lang/StringUTF16", name := "inflate", desc := "([BI[BII)V" } : Jvm.MethodName) jdk_52_method_86_code (6 : Nat) (Option.none : Option Jvm.ClassFile.FieldType), Jvm.Cond.code ({ cls := "java/lang/StringUTF16", name := "checkBoundsOffCount", desc := "(II[B)V" } : Jvm.MethodName) jdk_52_method_94_code (3 : Nat) (Option.none : Option Jvm.ClassFile.FieldType), Jvm.Cond.code ({ cls := "java/lang/StringUTF16", name := "length", desc := "([B)I" } : Jvm.MethodName) jdk_52_method_6_code (1 : Nat) (Option.some Jvm.ClassFile.FieldType.int), Jvm.Cond.code ({ cls := "java/lang/String", name := "checkBoundsOffCount", desc := "(III)I" } : Jvm.MethodName) jdk_42_method_157_code (3 : Nat) (Option.some Jvm.ClassFile.FieldType.int), Jvm.Cond.code ({ cls := "jdk/internal/util/Preconditions", name := "checkFromIndexSize", desc := "(IIILjava/util/function/BiFunction;)I" } : Jvm.MethodName) jdk_41_method_13_code (4 : Nat) (Option.some Jvm.ClassFile.FieldType.int), Jvm.Cond.code ({ cls := "java/lang/StringUTF16", name := "charAt", desc := "([BI)C" } : Jvm.MethodName) jdk_52_method_83_code (2 : Nat) (Option.some Jvm.ClassFile.FieldType.char), Jvm.Cond.code ({ cls := "java/lang/StringUTF16", name := "checkIndex", desc := "(I[B)V" } : Jvm.MethodName) jdk_52_method_91_code (2 : Nat) (Option.none : Option Jvm.ClassFile.FieldType)]
set_option maxRecDepth 65536 in
theorem codes_eq : words1.filter isCode = codes1 := rfl
theorem w_codes : ∀ c ∈ words1.filter isCode, c.before args0 about1 = true := by
  rw [codes_eq]
  intro c hc
  simp only [codes1, List.mem_cons, List.not_mem_nil, or_false] at hc
  rcases hc with rfl | rfl | rfl | rfl | rfl | rfl | rfl | rfl | rfl | rfl | rfl | rfl | rfl | rfl | rfl | rfl | rfl | rfl | rfl | rfl | rfl | rfl | rfl | rfl | rfl | rfl | rfl | rfl | rfl | rfl | rfl | rfl | rfl | rfl | rfl | rfl | rfl | rfl | rfl | rfl | rfl | rfl | rfl | rfl | rfl | rfl | rfl | rfl | rfl | rfl | rfl | rfl | rfl | rfl | rfl
  · exact w_c0
  · exact w_c1
  · exact w_c2
  · exact w_c3
  · exact w_c4
  · exact w_c5
  · exact w_c6
  · exact w_c7
  · exact w_c8
  · exact w_c9
  · exact w_c10
  · exact w_c11
  · exact w_c12
  · exact w_c13
  · exact w_c14
  · exact w_c15
  · exact w_c16
  · exact w_c17
  · exact w_c18
  · exact w_c19
  · exact w_c20
  · exact w_c21
  · exact w_c22
  · exact w_c23
  · exact w_c24
  · exact w_c25
  · exact w_c26
  · exact w_c27
  · exact w_c28
  · exact w_c29
  · exact w_c30
  · exact w_c31
  · exact w_c32
  · exact w_c33
  · exact w_c34
  · exact w_c35
  · exact w_c36
  · exact w_c37
  · exact w_c38
  · exact w_c39
  · exact w_c40
  · exact w_c41
  · exact w_c42
  · exact w_c43
  · exact w_c44
  · exact w_c45
  · exact w_c46
  · exact w_c47
  · exact w_c48
  · exact w_c49
  · exact w_c50
  · exact w_c51
  · exact w_c52
  · exact w_c53
  · exact w_c54
set_option maxRecDepth 65536 in
theorem w_t1 : (words1.take 24).all (fun c => isCode c || c.before args0 about1) = true := by decide +kernel
set_option maxRecDepth 65536 in
theorem w_t2 : ((words1.drop 24).take 24).all (fun c => isCode c || c.before args0 about1) = true := by decide +kernel
set_option maxRecDepth 65536 in
theorem w_t3 : (((words1.drop 24).drop 24).take 24).all (fun c => isCode c || c.before args0 about1) = true := by decide +kernel
set_option maxRecDepth 65536 in
theorem w_t4 : ((((words1.drop 24).drop 24).drop 24).take 24).all (fun c => isCode c || c.before args0 about1) = true := by decide +kernel
set_option maxRecDepth 65536 in
theorem w_t5 : (((((words1.drop 24).drop 24).drop 24).drop 24).take 24).all (fun c => isCode c || c.before args0 about1) = true := by decide +kernel
set_option maxRecDepth 65536 in
theorem w_t6 : ((((((words1.drop 24).drop 24).drop 24).drop 24).drop 24).take 24).all (fun c => isCode c || c.before args0 about1) = true := by decide +kernel
set_option maxRecDepth 65536 in
theorem w_t7 : (((((((words1.drop 24).drop 24).drop 24).drop 24).drop 24).drop 24).take 24).all (fun c => isCode c || c.before args0 about1) = true := by decide +kernel
set_option maxRecDepth 65536 in
theorem w_t8 : ((((((((words1.drop 24).drop 24).drop 24).drop 24).drop 24).drop 24).drop 24).take 24).all (fun c => isCode c || c.before args0 about1) = true := by decide +kernel
set_option maxRecDepth 65536 in
theorem w_t9 : (((((((((words1.drop 24).drop 24).drop 24).drop 24).drop 24).drop 24).drop 24).drop 24).take 24).all (fun c => isCode c || c.before args0 about1) = true := by decide +kernel
set_option maxRecDepth 65536 in
theorem w_t10 : ((((((((((words1.drop 24).drop 24).drop 24).drop 24).drop 24).drop 24).drop 24).drop 24).drop 24).take 24).all (fun c => isCode c || c.before args0 about1) = true := by decide +kernel
set_option maxRecDepth 65536 in
theorem w_t11 : (((((((((((words1.drop 24).drop 24).drop 24).drop 24).drop 24).drop 24).drop 24).drop 24).drop 24).drop 24).take 24).all (fun c => isCode c || c.before args0 about1) = true := by decide +kernel
set_option maxRecDepth 65536 in
theorem w_t12 : (((((((((((words1.drop 24).drop 24).drop 24).drop 24).drop 24).drop 24).drop 24).drop 24).drop 24).drop 24).drop 24).all (fun c => isCode c || c.before args0 about1) = true := by decide +kernel
theorem w_tables : (allAtoms (Jvm.Cond.code x code maxLocals ret :: tables_1)).before args0 about1 = true := by
  rw [allAtoms_all]
  show words1.all (fun c => c.before args0 about1) = true
  refine all_split ?_ w_codes
  rw [← List.take_append_drop 24 words1, List.all_append, w_t1, ← List.take_append_drop 24 (words1.drop 24), List.all_append, w_t2, ← List.take_append_drop 24 ((words1.drop 24).drop 24), List.all_append, w_t3, ← List.take_append_drop 24 (((words1.drop 24).drop 24).drop 24), List.all_append, w_t4, ← List.take_append_drop 24 ((((words1.drop 24).drop 24).drop 24).drop 24), List.all_append, w_t5, ← List.take_append_drop 24 (((((words1.drop 24).drop 24).drop 24).drop 24).drop 24), List.all_append, w_t6, ← List.take_append_drop 24 ((((((words1.drop 24).drop 24).drop 24).drop 24).drop 24).drop 24), List.all_append, w_t7, ← List.take_append_drop 24 (((((((words1.drop 24).drop 24).drop 24).drop 24).drop 24).drop 24).drop 24), List.all_append, w_t8, ← List.take_append_drop 24 ((((((((words1.drop 24).drop 24).drop 24).drop 24).drop 24).drop 24).drop 24).drop 24), List.all_append, w_t9, ← List.take_append_drop 24 (((((((((words1.drop 24).drop 24).drop 24).drop 24).drop 24).drop 24).drop 24).drop 24).drop 24), List.all_append, w_t10, ← List.take_append_drop 24 ((((((((((words1.drop 24).drop 24).drop 24).drop 24).drop 24).drop 24).drop 24).drop 24).drop 24).drop 24), List.all_append, w_t11, w_t12]
  rfl
set_option maxRecDepth 65536 in
theorem w_rest : rest_1_c.before args0 about1 = true := by decide +kernel
set_option maxRecDepth 65536 in
theorem w_case : (Jvm.Cond.and given_1 narrow_1).before args0 about1 = true := by decide +kernel
set_option maxRecDepth 65536 in
theorem w_consts : constsHeld consts_1 about1 := Jvm.Lit.constsHeldB_iff.mp (by decide +kernel)
theorem w_applies : (headSpec (Jvm.Cond.code x code maxLocals ret :: tables_1) room_1).applies x e0.platform about1 = true :=
  (Spec.applies_iff w_frames).mpr ⟨w_running, w_runnable, w_alone, w_named, w_hears, w_ripe, w_room, w_tables⟩
theorem atStart : AtStart classFile x code maxLocals ret World_1 tables_1 room_1 Calls_1 rest_1 Pre_1 launch0 p0 e0 about1 theMethod args0 below0 :=
  ⟨lists_1, trivial, launch0.admits_env _ _ _, launch0.least_env, fairChoices_fair.cas, fairChoices_fair.clock, w_frames, w_args, w_heap, w_applies, ⟨w_consts, trivial⟩, w_rest, w_case⟩
end start1
theorem witness_1 : WitnessClaimed_1 := ⟨start1.p0, start1.e0, start1.about1, start1.theMethod, start1.args0, start1.below0, start1.atStart⟩
end Jvm.Pilot.@@N@@
