import JvmDerived
import JvmDerived.Pilot.@@N@@Statement
import JvmDerived.Pilot.@@N@@Code
set_option linter.unusedVariables false
set_option linter.unusedSimpArgs false
namespace Jvm.RoadKit
open Sem ClassFile Op Lib Jvm.Stand Jvm.Free Jvm.LawKit
section New
variable {p : Program} {l : Launch} {e : Env} {R : Room} {s : State} {m : MethodId} {args : Array Value} {below : List Frame} {meth : Method} {c : Code} {T : State} {locs : List Loc} {cells slots : Nat}
theorem retI (X : Stand p l e R s m args below meth c T locs cells slots) (hx : p.tables.exec = Jvm.exec) {pc : Nat} {Ls : Array Slot} {z : Int32} {rest : List Value} (hret : meth.sig.returnType = some .int) (hd : decode c.code pc = .ok (.ireturn, 1)) {fs : List Frame}
    (hl : ∀ (f : JFrame) (acts : List Action), f.method = m → f.locked = none → f.entered = [] → (doReturn e (T.setTop f) acts (some (.int z))).1 = T.setFrames fs) : Steps p.tables e below (T.setTop (mkF m pc Ls (.int z :: rest))) (T.setFrames fs) := by
  have hm' : T.vm.method? m = some meth := X.method'
  have hn : narrow .int (.int z) = .int z := rfl
  show Steps p.tables e below (T.setTop { method := m, pc := pc, locals := Ls, stack := _ :: rest, locked := none }) _
  jvm_step X.here [X.here.top, hx, hd, hm', hret, hn]
  first | (intro acts; rw [hl _ acts rfl rfl rfl]) | rw [hl _ _ rfl rfl rfl]
  exact Steps.refl _
end New
end Jvm.RoadKit
namespace Jvm.Pilot.@@N@@
open Jvm Jvm.ClassFile Sem Op Lib Jvm.Free Jvm.Stand Jvm.LawKit Jvm.RoadKit Bundle Jvm.Pilot.@@N@@.Jvm.D
theorem ow {Z : State} {a0 : Array Value} (hw : ∀ d ∈ tables_1, d.before a0 Z = true) (i : Nat) {d : Jvm.Cond} (h : tables_1[i]? = some d) : d.before a0 Z = true := hw _ (List.mem_of_getElem? h)
def own_b (P : Prop) [Decidable P] : Int32 := if P then 1 else 0
theorem own_b_t {P : Prop} [Decidable P] (h : P) : own_b P = 1 := if_pos h
theorem own_b_f {P : Prop} [Decidable P] (h : ¬ P) : own_b P = 0 := if_neg h
theorem own_b_nz {P : Prop} [Decidable P] (h : P) : ¬ (own_b P = (0 : Int32)) := by rw [own_b_t h]; decide
theorem own_b_nar (P : Prop) [Decidable P] : nar .boolean (own_b P) = own_b P := by
  by_cases h : P
  · rw [own_b_t h]; rfl
  · rw [own_b_f h]; rfl
theorem own_sel {Z s : State} {a0 args : Array Value} {y : MethodName} {n : Nat} (hZ : Z.Warmed39 s.vm) (wi : (Jvm.Cond.instantiable y.cls n).before a0 Z = true) (wp : (Jvm.Cond.privateMethod y).before a0 Z = true) (wm : (Jvm.Cond.instanceMethod y).before a0 Z = true) (hy : y.cls ≠ "java/lang/invoke/MethodHandle" ∧ y.cls ≠ "java/lang/invoke/VarHandle") : (Jvm.Cond.selects y.cls y y).before args s = true := by
  have wi' : (Jvm.Cond.instantiable y.cls n).before args s = true := mvT hZ wi
  obtain ⟨c, k, h1, h2, h3, h4, -⟩ := Cond.instantiable_spec wi'
  have h5 : k.isInterface = false := by
    cases hq : k.isInterface with
    | false => rfl
    | true => rw [hq] at h4; simp at h4
  exact Jvm.Stand.selects_self_of_private h1 h2 h5 (Cond.privateMethod_at (mvP hZ wp (args := args))) (mvT hZ wm) hy
theorem own_nf {s : State} {args : Array Value} {C : String} {y y' : MethodName} (w : (Jvm.Cond.selects C y' y').before args s = true) (e : y'.cls = y.cls) : NotFace s y := fun r0 h0 => by
  obtain ⟨c2, r2, m2, q1, q2, q3, q4, kP, hkP, hkPi⟩ := Cond.selects_spec w
  have h1 := findClass_of_methodNamed h0
  have h2 := findClass_of_methodNamed q3
  rw [e] at h2
  have h3 := Option.some.inj (h1.symm.trans h2)
  exact ⟨kP, by rw [h3]; exact hkP, hkPi⟩
theorem own_selN {Z s : State} {a0 args : Array Value} {y : MethodName} (hZ : Z.Warmed39 s.vm) (nf : NotFace s y) (wp : (Jvm.Cond.privateMethod y).before a0 Z = true) (wm : (Jvm.Cond.instanceMethod y).before a0 Z = true) (hy : y.cls ≠ "java/lang/invoke/MethodHandle" ∧ y.cls ≠ "java/lang/invoke/VarHandle") : (Jvm.Cond.selects y.cls y y).before args s = true := by
  have wm' : (Jvm.Cond.instanceMethod y).before args s = true := mvT hZ wm
  obtain ⟨mk, methM, hnamed, -⟩ := Cond.instanceMethod_spec wm'
  obtain ⟨k, hk, hki⟩ := nf mk hnamed
  exact Jvm.Stand.selects_self_of_private (findClass_of_methodNamed hnamed) hk hki (Cond.privateMethod_at (mvP hZ wp (args := args))) wm' hy
theorem own_b01 (P : Prop) [Decidable P] : own_b P = (0 : Int32) ∨ own_b P = (1 : Int32) := by
  by_cases h : P
  · exact Or.inr (own_b_t h)
  · exact Or.inl (own_b_f h)
theorem own_b_iff {P : Prop} [Decidable P] : own_b P = (0 : Int32) ↔ ¬ P := ⟨fun q h => own_b_nz h q, own_b_f⟩
abbrev oJ : String := "com/example/hewgen/hewgen/runtime/JsonPath"
abbrev oA : String := "java/lang/AbstractStringBuilder"
abbrev oB : String := "java/lang/StringBuilder"
abbrev oS : String := "java/lang/String"
abbrev oI : String := "java/lang/Integer"
abbrev oM0 : MethodName := (⟨"com/example/hewgen/hewgen/runtime/JsonPath", "<init>", "()V"⟩ : MethodName)
abbrev oM1 : MethodName := (⟨"com/example/hewgen/hewgen/runtime/JsonPath", "enter", "(I)V"⟩ : MethodName)
abbrev oM2 : MethodName := (⟨"com/example/hewgen/hewgen/runtime/JsonPath", "enterArray", "()V"⟩ : MethodName)
abbrev oM3 : MethodName := (⟨"com/example/hewgen/hewgen/runtime/JsonPath", "nextIndex", "()V"⟩ : MethodName)
abbrev oM4 : MethodName := (⟨"com/example/hewgen/hewgen/runtime/JsonPath", "depth", "()I"⟩ : MethodName)
abbrev oM5 : MethodName := (⟨"com/example/hewgen/hewgen/runtime/JsonPath", "inArray", "()Z"⟩ : MethodName)
abbrev oM6 : MethodName := (⟨"com/example/hewgen/hewgen/runtime/JsonPath", "atStart", "()Z"⟩ : MethodName)
abbrev oM7 : MethodName := (⟨"java/lang/AbstractStringBuilder", "<init>", "(I)V"⟩ : MethodName)
abbrev oM8 : MethodName := (⟨"java/lang/StringBuilder", "<init>", "()V"⟩ : MethodName)
abbrev oM9 : MethodName := (⟨"java/lang/AbstractStringBuilder", "isLatin1", "()Z"⟩ : MethodName)
abbrev oM10 : MethodName := (⟨"java/lang/StringLatin1", "canEncode", "(C)Z"⟩ : MethodName)
abbrev oM11 : MethodName := (⟨"java/lang/AbstractStringBuilder", "ensureCapacityInternal", "(I)V"⟩ : MethodName)
abbrev oM12 : MethodName := (⟨"java/lang/AbstractStringBuilder", "append", "(C)Ljava/lang/AbstractStringBuilder;"⟩ : MethodName)
abbrev oM13 : MethodName := (⟨"java/lang/StringBuilder", "append", "(C)Ljava/lang/StringBuilder;"⟩ : MethodName)
abbrev oM14 : MethodName := (⟨"java/lang/Integer", "stringSize", "(I)I"⟩ : MethodName)
abbrev oM15 : MethodName := (⟨"java/lang/Integer", "getChars", "(II[B)I"⟩ : MethodName)
abbrev oM16 : MethodName := (⟨"java/lang/AbstractStringBuilder", "append", "(I)Ljava/lang/AbstractStringBuilder;"⟩ : MethodName)
abbrev oM17 : MethodName := (⟨"java/lang/StringBuilder", "append", "(I)Ljava/lang/StringBuilder;"⟩ : MethodName)
abbrev oM18 : MethodName := (⟨"java/lang/AbstractStringBuilder", "getValue", "()[B"⟩ : MethodName)
abbrev oM19 : MethodName := (⟨"java/lang/AbstractStringBuilder", "length", "()I"⟩ : MethodName)
abbrev oM20 : MethodName := (⟨"java/lang/StringBuilder", "length", "()I"⟩ : MethodName)
abbrev oM21 : MethodName := (⟨"java/util/Arrays", "checkLength", "(II)V"⟩ : MethodName)
abbrev oM22 : MethodName := (⟨"java/lang/Math", "min", "(II)I"⟩ : MethodName)
abbrev oM23 : MethodName := (⟨"java/util/Arrays", "copyOfRangeByte", "([BII)[B"⟩ : MethodName)
abbrev oM24 : MethodName := (⟨"java/util/Arrays", "copyOfRange", "([BII)[B"⟩ : MethodName)
abbrev oM25 : MethodName := (⟨"java/lang/String", "<init>", "(Ljava/lang/AbstractStringBuilder;Ljava/lang/Void;)V"⟩ : MethodName)
abbrev oM26 : MethodName := (⟨"java/lang/String", "<init>", "(Ljava/lang/StringBuilder;)V"⟩ : MethodName)
abbrev oM27 : MethodName := (⟨"java/lang/StringBuilder", "toString", "()Ljava/lang/String;"⟩ : MethodName)
abbrev oM28 : MethodName := (⟨"com/example/hewgen/hewgen/runtime/JsonPath", "pointer", "()Ljava/lang/String;"⟩ : MethodName)
abbrev oM29 : MethodName := (⟨"java/lang/StringLatin1", "equals", "([B[B)Z"⟩ : MethodName)
abbrev oM30 : MethodName := (⟨"java/lang/String", "equals", "(Ljava/lang/Object;)Z"⟩ : MethodName)
abbrev oM31 : MethodName := (⟨"java/lang/StringUTF16", "compress", "([CI[BII)I"⟩ : MethodName)
abbrev oM32 : MethodName := (⟨"java/lang/StringUTF16", "compress", "([CII)[B"⟩ : MethodName)
abbrev oM33 : MethodName := (⟨"java/lang/StringUTF16", "coderFromArrayLen", "([BI)B"⟩ : MethodName)
abbrev oM34 : MethodName := (⟨"java/lang/String", "<init>", "([CIILjava/lang/Void;)V"⟩ : MethodName)
abbrev oM35 : MethodName := (⟨"java/lang/String", "<init>", "([C)V"⟩ : MethodName)
abbrev oR0 : Room := ({ frames := 1, cells := 2, slots := 32, locals := 12 } : Room)
abbrev oR1 : Room := ({ frames := 0, cells := 0, slots := 0, locals := 0 } : Room)
abbrev oR2 : Room := ({ frames := 1, cells := 0, slots := 0, locals := 13 } : Room)
abbrev oR3 : Room := ({ frames := 1, cells := 0, slots := 0, locals := 12 } : Room)
abbrev oR4 : Room := ({ frames := 1, cells := 1, slots := 16, locals := 12 } : Room)
abbrev oR5 : Room := ({ frames := 2, cells := 1, slots := 16, locals := 25 } : Room)
abbrev oR6 : Room := ({ frames := 1, cells := 0, slots := 0, locals := 14 } : Room)
abbrev oR7 : Room := ({ frames := 2, cells := 0, slots := 0, locals := 27 } : Room)
abbrev oR8 : Room := ({ frames := 1, cells := 0, slots := 0, locals := 18 } : Room)
abbrev oR9 : Room := ({ frames := 2, cells := 0, slots := 0, locals := 33 } : Room)
abbrev oR10 : Room := ({ frames := 1, cells := 1, slots := 0, locals := 40 } : Room)
abbrev oR11 : Room := ({ frames := 2, cells := 1, slots := 0, locals := 56 } : Room)
abbrev oR12 : Room := ({ frames := 3, cells := 1, slots := 0, locals := 71 } : Room)
abbrev oR13 : Room := ({ frames := 4, cells := 1, slots := 0, locals := 87 } : Room)
abbrev oR14 : Room := ({ frames := 5, cells := 2, slots := 4, locals := 101 } : Room)
abbrev oR15 : Room := ({ frames := 1, cells := 1, slots := 2, locals := 40 } : Room)
abbrev oR16 : Room := ({ frames := 2, cells := 1, slots := 2, locals := 56 } : Room)
abbrev oR17 : Room := ({ frames := 3, cells := 1, slots := 2, locals := 71 } : Room)
abbrev oR18 : Room := ({ frames := 4, cells := 1, slots := 2, locals := 87 } : Room)
abbrev oR19 : Room := ({ frames := 5, cells := 2, slots := 6, locals := 101 } : Room)
abbrev oR20 : Room := ({ frames := 1, cells := 1, slots := 4, locals := 40 } : Room)
abbrev oR21 : Room := ({ frames := 2, cells := 1, slots := 4, locals := 56 } : Room)
abbrev oR22 : Room := ({ frames := 3, cells := 1, slots := 4, locals := 71 } : Room)
abbrev oR23 : Room := ({ frames := 4, cells := 1, slots := 4, locals := 87 } : Room)
abbrev oR24 : Room := ({ frames := 5, cells := 2, slots := 8, locals := 101 } : Room)
abbrev oR25 : Room := ({ frames := 6, cells := 4, slots := 24, locals := 113 } : Room)
abbrev oR26 : Room := ({ frames := 6, cells := 4, slots := 26, locals := 113 } : Room)
abbrev oR27 : Room := ({ frames := 6, cells := 4, slots := 28, locals := 113 } : Room)
abbrev oR28 : Room := ({ frames := 1, cells := 1, slots := 2, locals := 18 } : Room)
abbrev oR29 : Room := ({ frames := 2, cells := 1, slots := 2, locals := 35 } : Room)
abbrev oR30 : Room := ({ frames := 3, cells := 1, slots := 2, locals := 52 } : Room)
abbrev oR31 : Room := ({ frames := 1, cells := 1, slots := 4, locals := 18 } : Room)
abbrev oR32 : Room := ({ frames := 2, cells := 1, slots := 4, locals := 35 } : Room)
abbrev oR33 : Room := ({ frames := 3, cells := 1, slots := 4, locals := 52 } : Room)
set_option maxRecDepth 65536
set_option maxHeartbeats 40000000
theorem own_eqI {args : Array Value} {first s : State} {o : Option Outcome} {idx : List Nat} {a : Term} {n : Int32} (h : (Jvm.Cond.eq a (Term.int n)).value args first o s idx = some true) : a.eval args first o idx s = some (.int n) := by
  obtain ⟨x, y, ha, hb, k1, k2⟩ := cmp_v (Or.inl h)
  obtain rfl : y = .int n := (Option.some.inj ((Term.int_eval n).symm.trans hb)).symm
  obtain ⟨z, rfl⟩ := k2
  have q := gotT (Cond.eq_ints ha (Term.int_eval n)) h
  rw [ha, q]
theorem own_ne {s : State} {a b : Addr} {C n d : String} {x y : Int32} (h1 : s.fieldOf? a C n d = some (.int x)) (h2 : s.fieldOf? b C n d = some (.int y)) (h : x ≠ y) : a ≠ b := fun q => by
  subst q
  exact h (Value.int.inj (Option.some.inj (h1.symm.trans h2)))
theorem own_eqT {args : Array Value} {first s : State} {o : Option Outcome} {idx : List Nat} {a b : Term} {n : Int32} (h : (Jvm.Cond.eq a b).value args first o s idx = some true) (hb : b.eval args first o idx s = some (.int n)) : a.eval args first o idx s = some (.int n) := by
  obtain ⟨x, y, ha, hb', k1, k2⟩ := cmp_v (Or.inl h)
  obtain rfl : y = .int n := Option.some.inj (hb'.symm.trans hb)
  obtain ⟨z, rfl⟩ := k2
  have q := gotT (Cond.eq_ints ha hb) h
  rw [ha, q]
theorem own_dig {args : Array Value} {s : State} {C n d : String} (he : (Cond.exactly (.static C n d) "[B").before args s = true) (hl : (Cond.eq (.length (.static C n d)) (.int 100)).before args s = true) (harr : (Cond.arrayClass .byte).before args s = true)
    (hw : (Cond.all (.static C n d) (.eq (.elem (.static C n d) (.index 0)) (.add (.int 48) (.rem (.index 0) (.int 10))))).before args s = true) :
    ∃ (da : Addr) (D : Cell), (Term.static C n d).eval args s none [] s = some (.ref da) ∧ Arr s s.heap da D .byte ∧ D.slots.size = 100 ∧ D.slots[(0 : Int32).toNatClampNeg]? = some (.int (48 : Int32)) ∧ D.slots[(1 : Int32).toNatClampNeg]? = some (.int (49 : Int32)) := by
  obtain ⟨da, cB, D, kB, hev, hfcB, hcellD, hkB, hstatD, hclsD, -⟩ := Cond.exactly_spec he
  have hevA : ∀ idx, (Term.static C n d).eval args s none idx s = some (.ref da) := fun idx => by
    have : (Term.static C n d).eval args s none idx s = (Term.static C n d).eval args s none [] s := by simp only [Term.eval]
    rw [this]; exact hev
  have hl := Cond.eq_int hl rfl
  obtain ⟨d', D', hev', harrAt, hlen⟩ := Term.length_spec hl
  cases hev.symm.trans hev'
  obtain ⟨hcellD', hknD, -, -⟩ := State.arrayAt?_spec harrAt
  cases hcellD.symm.trans hcellD'
  have h31 := Jvm.Free.SBG.length_lt hev harrAt hl
  have hsz : D.slots.size = 100 := by
    have h2 : Int32.ofNat D.slots.size = Int32.ofNat 100 := (Value.int.inj hlen).symm
    have := congrArg Int32.toInt h2
    rw [Int32.toInt_ofNat_small h31, Int32.toInt_ofNat_small (by omega)] at this; omega
  obtain ⟨cB', kB', comp, hnameB, hkB', hkindB⟩ := Cond.arrayClass_spec harr
  have eBA : ("[" ++ FieldType.toString .byte) = "[B" := by decide
  rw [eBA] at hnameB
  cases hfcB.symm.trans hnameB
  cases hkB.symm.trans hkB'
  have key : ∀ r : Nat, r < 100 → D.slots[r]? = some (.int ((48 : Int32) + Int32.ofNat r % 10)) := fun r hr => by
    have h := Cond.all_elim (hevA []) harrAt (Jvm.Free.AList.val_of_holds hw) r (by omega)
    have eL : (Term.elem (.static C n d) (.index 0)).eval args s none [r] s = D.slots[r]? := Jvm.Free.SBG.elem_at (ix := .index 0) (hevA [r]) harrAt (by omega) (by omega) rfl
    rw [← eL]
    exact own_eqT h rfl
  refine ⟨da, D, hev, ⟨hcellD, ⟨(fun q h => by rw [h] at hstatD; cases hstatD), kB, (by rw [hclsD]; exact hkB), comp, hkindB⟩, hknD⟩, hsz, key 0 (by decide), key 1 (by decide)⟩
theorem own_cs {args : Array Value} {s : State} {T : Term} {cs : Int32} (hn : (Cond.not (.eq T (.int 0))).before args s = true) (he : T.eval args s none [] s = some (.int cs)) : ¬ (cs = (0 : Int32)) := fun q => by
  have h := Cond.before_iff.mp hn
  simp only [Cond.value] at h
  subst q
  simp [he, Term.eval] at h
theorem own_same {Z : State} {a0 : Array Value} {C : String} {x y : MethodName} (hd : (Cond.declares y).before a0 Z = true) (hs : (Cond.selects C x x).before a0 Z = true) (hc : x.cls = y.cls) (hy : y.cls ≠ "java/lang/invoke/MethodHandle" ∧ y.cls ≠ "java/lang/invoke/VarHandle") : (Cond.sameMethod y.cls y.cls y.name y.desc).before a0 Z = true := by
  obtain ⟨m, meth, hm, -⟩ := Cond.declares_spec hd
  obtain ⟨k0, hk0, hki⟩ := own_nf (y := y) hs hc m hm
  have hcn := findClass_of_methodNamed hm
  have hf := State.methodFound?_of_named hm hy
  obtain ⟨yc, yn, yd⟩ := y
  have hcn : Z.vm.findClass yc = some m.cls := hcn
  have hf : Z.methodFound? yc yn yd = some m := hf
  simp [Cond.before, Cond.holds, Cond.value, hcn, hf, hm, hk0, hki]
theorem own_nul {Z : State} {h h' : Heap} {a : Addr} {k : ClassId} {ty : FieldType} {z : Int32} {sl : Nat} (F : Arv Z h a k ty z [] .null) (W : Wr h h' a sl .null) : Arv Z h' a k ty z [] .null := by
  obtain ⟨c, A, q1, S, q3, H, G⟩ := F
  refine ⟨_, A.same W, q1, by rw [sz_set]; exact S, q3, fun x hx => ?_, fun x hx => by rw [sz_set] at hx; exact G x hx⟩
  rw [sz_set] at hx
  by_cases u : sl = x
  · subst u; simp [Cell.setSlot, hx]
  · have := H x hx
    simp only [Cell.setSlot]
    rw [Array.getElem?_setIfInBounds_ne u]; exact this
theorem own_3 {x k : Int32} (h : k = ((x &&& (2147483647 : Int32)) % (3 : Int32))) : k = (0 : Int32) ∨ k = (1 : Int32) ∨ k = (2 : Int32) := by
  have h1 := c_mask x 2147483647 31 (by decide) (by decide)
  have h2 := (c_irem (x &&& 2147483647) 3 3 (by decide)).1 (by rw [h1]; omega)
  rw [← h] at h2
  have hz : k.toInt = 0 ∨ k.toInt = 1 ∨ k.toInt = 2 := by omega
  rcases hz with hz | hz | hz
  · exact Or.inl (Int32.toInt_inj.mp (hz.trans (by decide)))
  · exact Or.inr (Or.inl (Int32.toInt_inj.mp (hz.trans (by decide))))
  · exact Or.inr (Or.inr (Int32.toInt_inj.mp (hz.trans (by decide))))
theorem pn0 : plainName "com/example/hewgen/hewgen/runtime/JsonPath" = true := by first | (simp [plainName, overriddenIn]; done) | decide +kernel
theorem d1_0 : decode prog_48_method_1_code 0 = .ok (.aload_n 0, 1) := by decide +kernel
theorem d1_1 : decode prog_48_method_1_code 1 = .ok (.invokespecial 1, 3) := by decide +kernel
theorem d1_4 : decode prog_48_method_1_code 4 = .ok (.aload_n 0, 1) := by decide +kernel
theorem d1_5 : decode prog_48_method_1_code 5 = .ok (.bipush 16, 2) := by decide +kernel
theorem d1_7 : decode prog_48_method_1_code 7 = .ok (.anewarray 7, 3) := by decide +kernel
theorem d1_10 : decode prog_48_method_1_code 10 = .ok (.putfield 9, 3) := by decide +kernel
theorem d1_13 : decode prog_48_method_1_code 13 = .ok (.aload_n 0, 1) := by decide +kernel
theorem d1_14 : decode prog_48_method_1_code 14 = .ok (.bipush 16, 2) := by decide +kernel
theorem d1_16 : decode prog_48_method_1_code 16 = .ok (.newarray .int, 2) := by decide +kernel
theorem d1_18 : decode prog_48_method_1_code 18 = .ok (.putfield 15, 3) := by decide +kernel
theorem d1_21 : decode prog_48_method_1_code 21 = .ok (.return_, 1) := by decide +kernel
theorem ef1 (m : MethodId) (r : Addr) : entryFrame m #[(.ref r)] 1 = mkF m 0 #[.val (.ref r)] [] := by first | (simp [entryFrame, mkF, argsToLocals, Value.category]; done) | rfl
def Q1 (Z : State) (r : Addr) (u1 : Value) (u2 : Value) (h0 : Heap) (n0 : Nat) (v : Option Value) (h : Heap) (L : List Loc) : Prop := ∃ (ka : Addr) (ia : Addr) (kk : ClassId) (ki : ClassId), v = none ∧ Fr n0 L ∧ Keep h0 h [r] ∧ n0 ≤ ka ∧ h0.size ≤ ka ∧ n0 ≤ ia ∧ h0.size ≤ ia ∧ ka ≠ ia ∧ Exa Z h r oJ ∧ Fld Z h r oJ "keys" "[Ljava/lang/String;" (.ref ka) ∧ Fld Z h r oJ "indexes" "[I" (.ref ia) ∧ Fld Z h r oJ "depth" "I" (.int 0) ∧ Arv Z h ka kk (.object oS) (16 : Int32) [] .null ∧ Arv Z h ia ki .int (16 : Int32) [(.int 0), (.int 0)] (.int 0)
theorem rm1 (l : Launch) (Z : State) (a0 : Array Value) (hw : ∀ d ∈ tables_1, d.before a0 Z = true) (ws : List Jvm.Cond) (r : Addr) (u1 : Value) (u2 : Value) (h0 : Heap) (n0 : Nat) (Z0 : n0 ≤ h0.size) (Ex1 : Exa Z h0 r oJ) (F1 : Fld Z h0 r oJ "keys" "[Ljava/lang/String;" u1) (F2 : Fld Z h0 r oJ "indexes" "[I" u2) (F3 : Fld Z h0 r oJ "depth" "I" (.int 0)) (gx1 : n0 ≤ r) :
    MetFree l oM0 (head1 (Jvm.Cond.code oM0 prog_48_method_1_code 1 none :: ws) oR0) (fun a U => a = #[(.ref r)] ∧ Z.Warmed39 U.vm ∧ U.heap = h0) (fun _ _ _ _ _ => True) (fun _ U o U' => ∃ v L, o = .returned v ∧ Q1 Z r u1 u2 h0 n0 v U'.heap L ∧ FrameEnd U o U' L oR0.cells oR0.slots) := by
  refine MetFree.of_bodySF (plainFor_of_name pn0) hisR ?_
  intro p e s m args below meth c s₁ Bd hml0 hP hK
  obtain ⟨rfl, hZ, hh⟩ := hP
  have hx := Bd.exec
  have hby := Bd.bytes
  have hml : c.maxLocals = 1 := hml0
  have hown : s.vm.findClass oJ = some m.cls := findClass_of_methodNamed Bd.named
  have hnm := (name_of_methodNamed Bd.named Bd.method).1
  have X0 : Stand p l e oR0 s m #[(.ref r)] below meth c s₁ [] 0 0 := Stand.of_body Bd
  have e0 : s₁.heap = h0 := by rw [← hh, Bd.state]; rfl
  have N0 := Fr.nil n0
  have pre0 : ∀ tZ, Steps p.tables e below (s₁.setTop (mkF m 0 #[.val (.ref r)] [])) tZ → Steps p.tables e below (s₁.setTop (entryFrame m #[(.ref r)] 1)) tZ := fun tZ kZ => castTop (ef1 m r) kZ
  obtain ⟨T1, X1, e1, st1⟩ := initO X0 hx hZ hown (ow hw 15 rfl) (ow hw 16 rfl) (ow hw 17 rfl) e0 (g := (mkF m 1 #[.val (.ref r)] [(.ref r)])) rfl (by rw [hml]; rfl) rfl (hb hby d1_1) (by decide) (W := 0) (Nat.le_of_eq rfl) (by decide)
  obtain ⟨T2, h2, k2, X2, e2, E2, A2, O2, st2⟩ := newR X1 hx hZ hown (ow hw 18 rfl) (ow hw 19 rfl) e1 (g := (mkF m 7 #[.val (.ref r)] [(.int 16), (.ref r)])) rfl (hb hby d1_7) rfl (by decide) (cap := 16) (by decide) (by decide) (by decide) (by decide)
  obtain ⟨b2, g2⟩ : ∃ z, z = h0.size := ⟨_, rfl⟩
  rw [← g2] at A2 st2
  have ne3 : r ≠ b2 := Nat.ne_of_lt (Nat.lt_of_lt_of_le Ex1.lt (Nat.le_of_eq g2.symm))
  have gn_b2 : n0 ≤ b2 := Nat.le_trans Z0 (Nat.le_of_eq g2.symm)
  have sz_b2 : h0.size ≤ b2 := Nat.le_trans (Keep.refl h0 [r]).1 (Nat.le_of_eq g2.symm)
  have Z4 : n0 ≤ h2.size := Nat.le_trans Z0 E2.1
  have K5 : Keep h0 h2 [r] := (Keep.refl h0 [r]).ext E2
  have V2 : Arv Z h2 b2 k2 (.object oS) (16 : Int32) [] .null := Arv.new A2 (by decide)
  have fa6 := (F1.ext E2)
  have fa7 := (Ex1.ext E2)
  obtain ⟨T8, h8, X8, e8, W8, st8⟩ := putF X2 hx hZ hown (host := "") (Or.inl (ow hw 20 rfl)) Via.refl e2 fa6 fa7 (Or.inl (ow hw 21 rfl)) (ow hw 10 rfl) (ty := (.array (.object oS))) (by decide) rfl rfl (g := (mkF m 10 #[.val (.ref r)] [(.ref b2), (.ref r)])) rfl rfl (hb hby d1_10)
  have fw8 : Fld Z h8 r oJ "keys" "[Ljava/lang/String;" (.ref b2) := fa6.same W8
  have Z9 : n0 ≤ h8.size := Nat.le_trans Z4 (Nat.le_of_eq W8.size.symm)
  have K10 : Keep h0 h8 [r] := K5.wr W8 (Or.inl (List.mem_of_getElem? (i := 0) rfl))
  have N8 := Fr.snoc X8 N0 gx1
  obtain ⟨T11, h11, k11, X11, e11, E11, A11, st11⟩ := newP X8 hx hZ (ow hw 22 rfl) e8 (g := (mkF m 16 #[.val (.ref r)] [(.int 16), (.ref r)])) rfl (hb hby d1_16) rfl (by decide) (cap := 16) (by decide) (by decide) (by decide) (by decide)
  obtain ⟨b11, g11⟩ : ∃ z, z = h8.size := ⟨_, rfl⟩
  rw [← g11] at A11 st11
  have fa12 := (fa7.wr W8)
  have ne13 : r ≠ b11 := Nat.ne_of_lt (Nat.lt_of_lt_of_le fa12.lt (Nat.le_of_eq g11.symm))
  have fa14 := (V2.other W8 (Ne.symm ne3))
  have ne15 : b2 ≠ b11 := Nat.ne_of_lt (Nat.lt_of_lt_of_le fa14.lt (Nat.le_of_eq g11.symm))
  have gn_b11 : n0 ≤ b11 := Nat.le_trans Z9 (Nat.le_of_eq g11.symm)
  have sz_b11 : h0.size ≤ b11 := Nat.le_trans K10.1 (Nat.le_of_eq g11.symm)
  have Z16 : n0 ≤ h11.size := Nat.le_trans Z9 E11.1
  have K17 : Keep h0 h11 [r] := K10.ext E11
  have V11 : Arv Z h11 b11 k11 .int (16 : Int32) [(.int 0), (.int 0)] (.int 0) := (Arv.new A11 (by decide)).pad (pad_rep [] (.int 0) 2)
  have fa18 := (((F2.ext E2).other W8 (Or.inr (slot_ne (Or.inl (ow hw 24 rfl)) (Or.inl (ow hw 21 rfl)) (by decide) (t := (.array .int)) (t' := (.array (.object oS))) (by decide) (by decide)))).ext E11)
  have fa19 := (fa12.ext E11)
  obtain ⟨T20, h20, X20, e20, W20, st20⟩ := putF X11 hx hZ hown (host := "") (Or.inl (ow hw 23 rfl)) Via.refl e11 fa18 fa19 (Or.inl (ow hw 24 rfl)) (ow hw 10 rfl) (ty := (.array .int)) (by decide) rfl rfl (g := (mkF m 18 #[.val (.ref r)] [(.ref b11), (.ref r)])) rfl rfl (hb hby d1_18)
  have fw20 : Fld Z h20 r oJ "indexes" "[I" (.ref b11) := fa18.same W20
  have Z21 : n0 ≤ h20.size := Nat.le_trans Z16 (Nat.le_of_eq W20.size.symm)
  have K22 : Keep h0 h20 [r] := K17.wr W20 (Or.inl (List.mem_of_getElem? (i := 0) rfl))
  have N20 := Fr.snoc X20 N8 gx1
  obtain ⟨fsZ, hrZ, hrun, hended, hW, hsame⟩ := X20.leave (v := none) (fun _ => rfl)
  have fa23 := (fa19.wr W20)
  have fa24 := ((fw8.ext E11).other W20 (Or.inr (slot_ne (Or.inl (ow hw 21 rfl)) (Or.inl (ow hw 24 rfl)) (by decide) (t := (.array (.object oS))) (t' := (.array .int)) (by decide) (by decide))))
  have fa25 := ((((F3.ext E2).other W8 (Or.inr (slot_ne (Or.inl (ow hw 35 rfl)) (Or.inl (ow hw 21 rfl)) (by decide) (t := .int) (t' := (.array (.object oS))) (by decide) (by decide)))).ext E11).other W20 (Or.inr (slot_ne (Or.inl (ow hw 35 rfl)) (Or.inl (ow hw 24 rfl)) (by decide) (t := .int) (t' := (.array .int)) (by decide) (by decide))))
  have fa26 := ((fa14.ext E11).other W20 (Ne.symm ne3))
  have fa27 := (V11.other W20 (Ne.symm ne13))
  refine ⟨_, _, pre0 _ ?_, hrun, hended, _, _, rfl, ?_, ⟨_, rfl⟩, hW, hsame.mono (by decide) (by decide)⟩
  · show Steps _ _ _ (s₁.setTop (mkF m 0 #[.val (.ref r)] [])) _
    refine XS.aloadN X0.here hx rfl (hb hby d1_0) rfl rfl ?_
    show Steps _ _ _ (s₁.setTop (mkF m 1 #[.val (.ref r)] [(.ref r)])) _
    refine st1 _ ?_
    refine XS.aloadN X1.here hx rfl (hb hby d1_4) rfl rfl ?_
    refine XS.bipush X1.here hx rfl (hb hby d1_5) ?_
    show Steps _ _ _ (T1.setTop (mkF m 7 #[.val (.ref r)] [(.int 16), (.ref r)])) _
    refine st2 _ ?_
    show Steps _ _ _ (T2.setTop (mkF m 10 #[.val (.ref r)] [(.ref b2), (.ref r)])) _
    refine st8 _ ?_
    refine XS.aloadN X8.here hx rfl (hb hby d1_13) rfl rfl ?_
    refine XS.bipush X8.here hx rfl (hb hby d1_14) ?_
    show Steps _ _ _ (T8.setTop (mkF m 16 #[.val (.ref r)] [(.int 16), (.ref r)])) _
    refine st11 _ ?_
    show Steps _ _ _ (T11.setTop (mkF m 18 #[.val (.ref r)] [(.ref b11), (.ref r)])) _
    refine st20 _ ?_
    show Steps _ _ _ (T20.setTop (mkF m 21 #[.val (.ref r)] [])) _
    exact X20.returnOut hx Bd.returns (hb hby d1_21) hrZ
  · show Q1 Z r u1 u2 h0 n0 _ T20.heap _
    rw [e20]
    exact ⟨b2, b11, k2, k11, rfl, N20, K22, gn_b2, sz_b2, gn_b11, sz_b11, ne15, fa23, fa24, fw20, fa25, fa26, fa27⟩
theorem d4_0 : decode prog_48_method_12_code 0 = .ok (.aload_n 0, 1) := by decide +kernel
theorem d4_1 : decode prog_48_method_12_code 1 = .ok (.getfield 19, 3) := by decide +kernel
theorem d4_4 : decode prog_48_method_12_code 4 = .ok (.sipush 1000, 3) := by decide +kernel
theorem d4_7 : decode prog_48_method_12_code 7 = .ok (.if_icmp .ne 10, 3) := by decide +kernel
theorem d4_17 : decode prog_48_method_12_code 17 = .ok (.aload_n 0, 1) := by decide +kernel
theorem d4_18 : decode prog_48_method_12_code 18 = .ok (.getfield 19, 3) := by decide +kernel
theorem d4_21 : decode prog_48_method_12_code 21 = .ok (.aload_n 0, 1) := by decide +kernel
theorem d4_22 : decode prog_48_method_12_code 22 = .ok (.getfield 9, 3) := by decide +kernel
theorem d4_25 : decode prog_48_method_12_code 25 = .ok (.arraylength, 1) := by decide +kernel
theorem d4_26 : decode prog_48_method_12_code 26 = .ok (.if_icmp .ne 40, 3) := by decide +kernel
theorem d4_66 : decode prog_48_method_12_code 66 = .ok (.aload_n 0, 1) := by decide +kernel
theorem d4_67 : decode prog_48_method_12_code 67 = .ok (.getfield 9, 3) := by decide +kernel
theorem d4_70 : decode prog_48_method_12_code 70 = .ok (.aload_n 0, 1) := by decide +kernel
theorem d4_71 : decode prog_48_method_12_code 71 = .ok (.getfield 19, 3) := by decide +kernel
theorem d4_74 : decode prog_48_method_12_code 74 = .ok (.aconst_null, 1) := by decide +kernel
theorem d4_75 : decode prog_48_method_12_code 75 = .ok (.aastore, 1) := by decide +kernel
theorem d4_76 : decode prog_48_method_12_code 76 = .ok (.aload_n 0, 1) := by decide +kernel
theorem d4_77 : decode prog_48_method_12_code 77 = .ok (.getfield 15, 3) := by decide +kernel
theorem d4_80 : decode prog_48_method_12_code 80 = .ok (.aload_n 0, 1) := by decide +kernel
theorem d4_81 : decode prog_48_method_12_code 81 = .ok (.getfield 19, 3) := by decide +kernel
theorem d4_84 : decode prog_48_method_12_code 84 = .ok (.iload_n 1, 1) := by decide +kernel
theorem d4_85 : decode prog_48_method_12_code 85 = .ok (.iastore, 1) := by decide +kernel
theorem d4_86 : decode prog_48_method_12_code 86 = .ok (.aload_n 0, 1) := by decide +kernel
theorem d4_87 : decode prog_48_method_12_code 87 = .ok (.dup, 1) := by decide +kernel
theorem d4_88 : decode prog_48_method_12_code 88 = .ok (.getfield 19, 3) := by decide +kernel
theorem d4_91 : decode prog_48_method_12_code 91 = .ok (.iconst 1, 1) := by decide +kernel
theorem d4_92 : decode prog_48_method_12_code 92 = .ok (.iadd, 1) := by decide +kernel
theorem d4_93 : decode prog_48_method_12_code 93 = .ok (.putfield 19, 3) := by decide +kernel
theorem d4_96 : decode prog_48_method_12_code 96 = .ok (.return_, 1) := by decide +kernel
theorem ef4d0 (m : MethodId) (r : Addr) : entryFrame m #[(.ref r), (.int (-1))] 2 = mkF m 0 #[.val (.ref r), .val (.int (-1))] [] := by first | (simp [entryFrame, mkF, argsToLocals, Value.category]; done) | rfl
def Q4d0 (Z : State) (r : Addr) (ka : Addr) (ia : Addr) (kk : ClassId) (ki : ClassId) (x0 : Int32) (x1 : Int32) (h0 : Heap) (n0 : Nat) (v : Option Value) (h : Heap) (L : List Loc) : Prop := v = none ∧ Fr n0 L ∧ Keep h0 h [r, ka, ia] ∧ Exa Z h r oJ ∧ Fld Z h r oJ "keys" "[Ljava/lang/String;" (.ref ka) ∧ Fld Z h r oJ "indexes" "[I" (.ref ia) ∧ Fld Z h r oJ "depth" "I" (.int 1) ∧ Arv Z h ka kk (.object oS) (16 : Int32) [] .null ∧ Arv Z h ia ki .int (16 : Int32) [(.int (-1)), (.int x1)] (.int 0)
theorem rm4d0 (l : Launch) (Z : State) (a0 : Array Value) (hw : ∀ d ∈ tables_1, d.before a0 Z = true) (ws : List Jvm.Cond) (r : Addr) (ka : Addr) (ia : Addr) (kk : ClassId) (ki : ClassId) (x0 : Int32) (x1 : Int32) (h0 : Heap) (n0 : Nat) (Z0 : n0 ≤ h0.size) (F0 : Exa Z h0 r oJ) (F1 : Fld Z h0 r oJ "keys" "[Ljava/lang/String;" (.ref ka)) (F2 : Fld Z h0 r oJ "indexes" "[I" (.ref ia)) (F3 : Fld Z h0 r oJ "depth" "I" (.int 0)) (F4 : Arv Z h0 ka kk (.object oS) (16 : Int32) [] .null) (F5 : Arv Z h0 ia ki .int (16 : Int32) [(.int x0), (.int x1)] (.int 0)) (gx1 : n0 ≤ r) (gx2 : n0 ≤ ka) (gx3 : n0 ≤ ia) (nx1 : r ≠ ka) (nx2 : r ≠ ia) (nx3 : ka ≠ ia) :
    MetFree l oM1 (head1 (Jvm.Cond.code oM1 prog_48_method_12_code 2 none :: ws) oR1) (fun a U => a = #[(.ref r), (.int (-1))] ∧ Z.Warmed39 U.vm ∧ U.heap = h0) (fun _ _ _ _ _ => True) (fun _ U o U' => ∃ v L, o = .returned v ∧ Q4d0 Z r ka ia kk ki x0 x1 h0 n0 v U'.heap L ∧ FrameEnd U o U' L oR1.cells oR1.slots) := by
  refine MetFree.of_bodySF (plainFor_of_name pn0) hisR ?_
  intro p e s m args below meth c s₁ Bd hml0 hP hK
  obtain ⟨rfl, hZ, hh⟩ := hP
  have hx := Bd.exec
  have hby := Bd.bytes
  have hml : c.maxLocals = 2 := hml0
  have hown : s.vm.findClass oJ = some m.cls := findClass_of_methodNamed Bd.named
  have hnm := (name_of_methodNamed Bd.named Bd.method).1
  have X0 : Stand p l e oR1 s m #[(.ref r), (.int (-1))] below meth c s₁ [] 0 0 := Stand.of_body Bd
  have e0 : s₁.heap = h0 := by rw [← hh, Bd.state]; rfl
  have N0 := Fr.nil n0
  have pre0 : ∀ tZ, Steps p.tables e below (s₁.setTop (mkF m 0 #[.val (.ref r), .val (.int (-1))] [])) tZ → Steps p.tables e below (s₁.setTop (entryFrame m #[(.ref r), (.int (-1))] 2)) tZ := fun tZ kZ => castTop (ef4d0 m r) kZ
  obtain ⟨T1, X1, e1, st1⟩ := getF X0 hx hZ hown (host := "") (Or.inl (ow hw 34 rfl)) Via.refl e0 F3 (g := (mkF m 1 #[.val (.ref r), .val (.int (-1))] [(.ref r)])) rfl rfl (hb hby d4_1)
  obtain ⟨T2, X2, e2, st2⟩ := getF X1 hx hZ hown (host := "") (Or.inl (ow hw 34 rfl)) Via.refl e1 F3 (g := (mkF m 18 #[.val (.ref r), .val (.int (-1))] [(.ref r)])) rfl rfl (hb hby d4_18)
  obtain ⟨T3, X3, e3, st3⟩ := getF X2 hx hZ hown (host := "") (Or.inl (ow hw 20 rfl)) Via.refl e2 F1 (g := (mkF m 22 #[.val (.ref r), .val (.int (-1))] [(.ref r), (.int 0)])) rfl rfl (hb hby d4_22)
  obtain ⟨c4, Arc4, -, Sc4, Mc4, -, -⟩ := id F4
  obtain ⟨T5, X5, e5, st5⟩ := getF X3 hx hZ hown (host := "") (Or.inl (ow hw 20 rfl)) Via.refl e3 F1 (g := (mkF m 67 #[.val (.ref r), .val (.int (-1))] [(.ref r)])) rfl rfl (hb hby d4_67)
  obtain ⟨T6, X6, e6, st6⟩ := getF X5 hx hZ hown (host := "") (Or.inl (ow hw 34 rfl)) Via.refl e5 F3 (g := (mkF m 71 #[.val (.ref r), .val (.int (-1))] [(.ref r), (.ref ka)])) rfl rfl (hb hby d4_71)
  obtain ⟨c7, Arc7, qc7, Sc7, Mc7, Hc7, Gc7⟩ := id F4
  have hinc7 : ¬ ((0 : Int32) < 0 ∨ c7.slots.size ≤ ((0 : Int32)).toNatClampNeg) := inb_of Sc7 ⟨by decide, by decide⟩
  obtain ⟨T8, h8, X8, e8, W8, st8⟩ := stR X6 hx hZ e6 Arc7 (j := (0 : Int32)) hinc7 rfl (Or.inl rfl) (g := (mkF m 75 #[.val (.ref r), .val (.int (-1))] [.null, (.int 0), (.ref ka)])) rfl rfl (hb hby d4_75)
  have V8 : Arv Z h8 ka kk (.object oS) (16 : Int32) [] .null := own_nul F4 W8
  have Z9 : n0 ≤ h8.size := Nat.le_trans Z0 (Nat.le_of_eq W8.size.symm)
  have K10 : Keep h0 h8 [r, ka, ia] := (Keep.refl h0 [r, ka, ia]).wr W8 (Or.inl (List.mem_of_getElem? (i := 1) rfl))
  have N8 := Fr.snoc X8 N0 gx2
  have fa11 := (F2.other W8 (Or.inl nx1))
  obtain ⟨T12, X12, e12, st12⟩ := getF X8 hx hZ hown (host := "") (Or.inl (ow hw 23 rfl)) Via.refl e8 fa11 (g := (mkF m 77 #[.val (.ref r), .val (.int (-1))] [(.ref r)])) rfl rfl (hb hby d4_77)
  have fa13 := (F3.other W8 (Or.inl nx1))
  obtain ⟨T14, X14, e14, st14⟩ := getF X12 hx hZ hown (host := "") (Or.inl (ow hw 34 rfl)) Via.refl e12 fa13 (g := (mkF m 81 #[.val (.ref r), .val (.int (-1))] [(.ref r), (.ref ia)])) rfl rfl (hb hby d4_81)
  have fa15 := (F5.other W8 (Ne.symm nx3))
  obtain ⟨c16, Arc16, qc16, Sc16, Mc16, Hc16, Gc16⟩ := id fa15
  have hinc16 : ¬ ((0 : Int32) < 0 ∨ c16.slots.size ≤ ((0 : Int32)).toNatClampNeg) := inb_of Sc16 ⟨by decide, by decide⟩
  obtain ⟨T17, h17, X17, e17, W17, st17⟩ := stI X14 hx hZ e14 Arc16 (j := (0 : Int32)) hinc16  (g := (mkF m 85 #[.val (.ref r), .val (.int (-1))] [(.int (-1)), (.int 0), (.ref ia)])) rfl rfl (hb hby d4_85)
  have V17 : Arv Z h17 ia ki .int (16 : Int32) [(.int (-1)), (.int x1)] (.int 0) := Arv.set Arc16 qc16 Sc16 Mc16 Hc16 Gc16 rfl W17 0 rfl (Nat.le_of_ble_eq_true rfl)
  have Z18 : n0 ≤ h17.size := Nat.le_trans Z9 (Nat.le_of_eq W17.size.symm)
  have K19 : Keep h0 h17 [r, ka, ia] := K10.wr W17 (Or.inl (List.mem_of_getElem? (i := 2) rfl))
  have N17 := Fr.snoc X17 N8 gx3
  have fa20 := (fa13.other W17 (Or.inl nx2))
  obtain ⟨T21, X21, e21, st21⟩ := getF X17 hx hZ hown (host := "") (Or.inl (ow hw 34 rfl)) Via.refl e17 fa20 (g := (mkF m 88 #[.val (.ref r), .val (.int (-1))] [(.ref r), (.ref r)])) rfl rfl (hb hby d4_88)
  have fa22 := ((F0.wr W8).wr W17)
  obtain ⟨T23, h23, X23, e23, W23, st23⟩ := putF X21 hx hZ hown (host := "") (Or.inl (ow hw 34 rfl)) Via.refl e21 fa20 fa22 (Or.inl (ow hw 35 rfl)) (ow hw 10 rfl) (ty := .int) (by decide) rfl rfl (g := (mkF m 93 #[.val (.ref r), .val (.int (-1))] [(.int 1), (.ref r)])) rfl rfl (hb hby d4_93)
  have fw23 : Fld Z h23 r oJ "depth" "I" (.int 1) := fa20.same W23
  have Z24 : n0 ≤ h23.size := Nat.le_trans Z18 (Nat.le_of_eq W23.size.symm)
  have K25 : Keep h0 h23 [r, ka, ia] := K19.wr W23 (Or.inl (List.mem_of_getElem? (i := 0) rfl))
  have N23 := Fr.snoc X23 N17 gx1
  obtain ⟨fsZ, hrZ, hrun, hended, hW, hsame⟩ := X23.leave (v := none) (fun _ => rfl)
  have fa26 := (fa22.wr W23)
  have fa27 := (((F1.other W8 (Or.inl nx1)).other W17 (Or.inl nx2)).other W23 (Or.inr (slot_ne (Or.inl (ow hw 21 rfl)) (Or.inl (ow hw 35 rfl)) (by decide) (t := (.array (.object oS))) (t' := .int) (by decide) (by decide))))
  have fa28 := ((fa11.other W17 (Or.inl nx2)).other W23 (Or.inr (slot_ne (Or.inl (ow hw 24 rfl)) (Or.inl (ow hw 35 rfl)) (by decide) (t := (.array .int)) (t' := .int) (by decide) (by decide))))
  have fa29 := ((V8.other W17 nx3).other W23 (Ne.symm nx1))
  have fa30 := (V17.other W23 (Ne.symm nx2))
  refine ⟨_, _, pre0 _ ?_, hrun, hended, _, _, rfl, ?_, ⟨_, rfl⟩, hW, hsame.mono (by decide) (by decide)⟩
  · show Steps _ _ _ (s₁.setTop (mkF m 0 #[.val (.ref r), .val (.int (-1))] [])) _
    refine XS.aloadN X0.here hx rfl (hb hby d4_0) rfl rfl ?_
    show Steps _ _ _ (s₁.setTop (mkF m 1 #[.val (.ref r), .val (.int (-1))] [(.ref r)])) _
    refine st1 _ ?_
    refine XS.sipush X1.here hx rfl (hb hby d4_4) ?_
    refine XS.icmpYes X1.here hx rfl (pc0 := 7) (pc' := 17) rfl (hb hby d4_7) rfl (feq (by decide)).2 (by decide) (by decide) ?_
    refine XS.aloadN X1.here hx rfl (hb hby d4_17) rfl rfl ?_
    show Steps _ _ _ (T1.setTop (mkF m 18 #[.val (.ref r), .val (.int (-1))] [(.ref r)])) _
    refine st2 _ ?_
    refine XS.aloadN X2.here hx rfl (hb hby d4_21) rfl rfl ?_
    show Steps _ _ _ (T2.setTop (mkF m 22 #[.val (.ref r), .val (.int (-1))] [(.ref r), (.int 0)])) _
    refine st3 _ ?_
    show Steps _ _ _ (T3.setTop (mkF m 25 #[.val (.ref r), .val (.int (-1))] [(.ref ka), (.int 0)])) _
    refine X3.arraylength hx (by rw [e3]; exact Arc4.1) (State.isArrayOf_alike hZ.alike Arc4.2.1) (g := (mkF m 25 #[.val (.ref r), .val (.int (-1))] [(.ref ka), (.int 0)])) rfl rfl (hb hby d4_25) _ ?_
    rw [len_of Sc4 Mc4]
    show Steps _ _ _ (T3.setTop (mkF m 26 #[.val (.ref r), .val (.int (-1))] [(.int 16), (.int 0)])) _
    refine XS.icmpYes X3.here hx rfl (pc0 := 26) (pc' := 66) rfl (hb hby d4_26) rfl (feq (by decide)).2 (by decide) (by decide) ?_
    refine XS.aloadN X3.here hx rfl (hb hby d4_66) rfl rfl ?_
    show Steps _ _ _ (T3.setTop (mkF m 67 #[.val (.ref r), .val (.int (-1))] [(.ref r)])) _
    refine st5 _ ?_
    refine XS.aloadN X5.here hx rfl (hb hby d4_70) rfl rfl ?_
    show Steps _ _ _ (T5.setTop (mkF m 71 #[.val (.ref r), .val (.int (-1))] [(.ref r), (.ref ka)])) _
    refine st6 _ ?_
    refine XS.aconstNull X6.here hx rfl (hb hby d4_74) ?_
    show Steps _ _ _ (T6.setTop (mkF m 75 #[.val (.ref r), .val (.int (-1))] [.null, (.int 0), (.ref ka)])) _
    refine st8 _ ?_
    refine XS.aloadN X8.here hx rfl (hb hby d4_76) rfl rfl ?_
    show Steps _ _ _ (T8.setTop (mkF m 77 #[.val (.ref r), .val (.int (-1))] [(.ref r)])) _
    refine st12 _ ?_
    refine XS.aloadN X12.here hx rfl (hb hby d4_80) rfl rfl ?_
    show Steps _ _ _ (T12.setTop (mkF m 81 #[.val (.ref r), .val (.int (-1))] [(.ref r), (.ref ia)])) _
    refine st14 _ ?_
    refine XS.iloadN X14.here hx rfl (hb hby d4_84) rfl  ?_
    show Steps _ _ _ (T14.setTop (mkF m 85 #[.val (.ref r), .val (.int (-1))] [(.int (-1)), (.int 0), (.ref ia)])) _
    refine st17 _ ?_
    refine XS.aloadN X17.here hx rfl (hb hby d4_86) rfl rfl ?_
    refine XS.dup X17.here hx rfl (hb hby d4_87) rfl rfl ?_
    show Steps _ _ _ (T17.setTop (mkF m 88 #[.val (.ref r), .val (.int (-1))] [(.ref r), (.ref r)])) _
    refine st21 _ ?_
    refine XS.iconst X21.here hx rfl (hb hby d4_91) ?_
    refine XS.iadd X21.here hx rfl (hb hby d4_92) rfl ?_
    show Steps _ _ _ (T21.setTop (mkF m 93 #[.val (.ref r), .val (.int (-1))] [(.int ((0 : Int32) + (1 : Int32))), (.ref r)])) _
    rw [show ((0 : Int32) + (1 : Int32)) = (1 : Int32) from by decide]
    show Steps _ _ _ (T21.setTop (mkF m 93 #[.val (.ref r), .val (.int (-1))] [(.int 1), (.ref r)])) _
    refine st23 _ ?_
    show Steps _ _ _ (T23.setTop (mkF m 96 #[.val (.ref r), .val (.int (-1))] [])) _
    exact X23.returnOut hx Bd.returns (hb hby d4_96) hrZ
  · show Q4d0 Z r ka ia kk ki x0 x1 h0 n0 _ T23.heap _
    rw [e23]
    exact ⟨rfl, N23, K25, fa26, fa27, fa28, fw23, fa29, fa30⟩
theorem d3_0 : decode prog_48_method_4_code 0 = .ok (.aload_n 0, 1) := by decide +kernel
theorem d3_1 : decode prog_48_method_4_code 1 = .ok (.iconst (-1), 1) := by decide +kernel
theorem d3_2 : decode prog_48_method_4_code 2 = .ok (.invokevirtual 23, 3) := by decide +kernel
theorem pd1 : parseMethodDescriptor "(I)V" = some ⟨[.int], none⟩ := by decide +kernel
theorem d3_5 : decode prog_48_method_4_code 5 = .ok (.return_, 1) := by decide +kernel
theorem ef3d0 (m : MethodId) (r : Addr) : entryFrame m #[(.ref r)] 1 = mkF m 0 #[.val (.ref r)] [] := by first | (simp [entryFrame, mkF, argsToLocals, Value.category]; done) | rfl
def Q3d0 (Z : State) (r : Addr) (ka : Addr) (ia : Addr) (kk : ClassId) (ki : ClassId) (x0 : Int32) (x1 : Int32) (h0 : Heap) (n0 : Nat) (v : Option Value) (h : Heap) (L : List Loc) : Prop := v = none ∧ Fr n0 L ∧ Keep h0 h [r, ka, ia] ∧ Exa Z h r oJ ∧ Fld Z h r oJ "keys" "[Ljava/lang/String;" (.ref ka) ∧ Fld Z h r oJ "indexes" "[I" (.ref ia) ∧ Fld Z h r oJ "depth" "I" (.int 1) ∧ Arv Z h ka kk (.object oS) (16 : Int32) [] .null ∧ Arv Z h ia ki .int (16 : Int32) [(.int (-1)), (.int x1)] (.int 0)
theorem rm3d0 (l : Launch) (Z : State) (a0 : Array Value) (hw : ∀ d ∈ tables_1, d.before a0 Z = true) (ws : List Jvm.Cond) (r : Addr) (ka : Addr) (ia : Addr) (kk : ClassId) (ki : ClassId) (x0 : Int32) (x1 : Int32) (h0 : Heap) (n0 : Nat) (Z0 : n0 ≤ h0.size) (F0 : Exa Z h0 r oJ) (F1 : Fld Z h0 r oJ "keys" "[Ljava/lang/String;" (.ref ka)) (F2 : Fld Z h0 r oJ "indexes" "[I" (.ref ia)) (F3 : Fld Z h0 r oJ "depth" "I" (.int 0)) (F4 : Arv Z h0 ka kk (.object oS) (16 : Int32) [] .null) (F5 : Arv Z h0 ia ki .int (16 : Int32) [(.int x0), (.int x1)] (.int 0)) (gx1 : n0 ≤ r) (gx2 : n0 ≤ ka) (gx3 : n0 ≤ ia) (nx1 : r ≠ ka) (nx2 : r ≠ ia) (nx3 : ka ≠ ia) :
    MetFree l oM2 (head1 (Jvm.Cond.code oM2 prog_48_method_4_code 1 none :: ws) oR2) (fun a U => a = #[(.ref r)] ∧ Z.Warmed39 U.vm ∧ U.heap = h0) (fun _ _ _ _ _ => True) (fun _ U o U' => ∃ v L, o = .returned v ∧ Q3d0 Z r ka ia kk ki x0 x1 h0 n0 v U'.heap L ∧ FrameEnd U o U' L oR2.cells oR2.slots) := by
  refine MetFree.of_bodySF (plainFor_of_name pn0) hisR ?_
  intro p e s m args below meth c s₁ Bd hml0 hP hK
  obtain ⟨rfl, hZ, hh⟩ := hP
  have hx := Bd.exec
  have hby := Bd.bytes
  have hml : c.maxLocals = 1 := hml0
  have hown : s.vm.findClass oJ = some m.cls := findClass_of_methodNamed Bd.named
  have hnm := (name_of_methodNamed Bd.named Bd.method).1
  have X0 : Stand p l e oR2 s m #[(.ref r)] below meth c s₁ [] 0 0 := Stand.of_body Bd
  have e0 : s₁.heap = h0 := by rw [← hh, Bd.state]; rfl
  have N0 := Fr.nil n0
  have pre0 : ∀ tZ, Steps p.tables e below (s₁.setTop (mkF m 0 #[.val (.ref r)] [])) tZ → Steps p.tables e below (s₁.setTop (entryFrame m #[(.ref r)] 1)) tZ := fun tZ kZ => castTop (ef3d0 m r) kZ
  obtain ⟨cq1, q1, q1'⟩ := F0.cell
  obtain ⟨_, _, ⟨T1, L1, k1, n1⟩, -, X1, ⟨Lc1, hQ1, l1, y1, z1⟩, st1⟩ := X0.privateBack hx (y := oM1) hown (mvT hZ (ow hw 30 rfl)) (mvT hZ (ow hw 31 rfl)) (own_sel hZ (ow hw 10 rfl) (ow hw 32 rfl) (ow hw 31 rfl) (by decide)) (Cond.privateMethod_at (mvP hZ (ow hw 32 rfl) (args := #[]))) (mvT hZ (ow hw 33 rfl)) (by decide) (backOf (W := 0) (rm4d0 l Z a0 hw [] r ka ia kk ki x0 x1 h0 n0 Z0 F0 F1 F2 F3 F4 F5 gx1 gx2 gx3 nx1 nx2 nx3) hZ (ow hw 33 rfl) (ow hw 11 rfl) (by decide) (by decide)) (g := (mkF m 2 #[.val (.ref r)] [(.int (-1)), (.ref r)])) rfl (by rw [hml]; rfl) (Steps.refl _) (a := r) (by rw [e0]; exact q1) q1' (argsL := [(.int (-1))]) (rest := []) (lenOf pd1 rfl) rfl (Nat.le_of_eq rfl) (hb hby d3_2) (fun _ _ => ⟨rfl, e0, (by decide : 0 + 0 ≤ _), (by decide : 0 + 0 ≤ _)⟩)
  dsimp only [Pt.U, Pt.locs, Pt.cells, Pt.slots] at X1 l1 y1 z1 st1 hQ1
  subst l1 y1 z1
  obtain ⟨rfl, N1q, K1, f1_0, f1_1, f1_2, f1_3, f1_4, f1_5⟩ := hQ1
  have N1 := Fr.app N0 N1q
  have Z2 : n0 ≤ T1.heap.size := Nat.le_trans Z0 K1.1
  have K3 : Keep h0 T1.heap [r, ka, ia] := (Keep.refl h0 [r, ka, ia]).trans K1 (allS (P := fun x => x ∈ _ ∨ _) (Or.inl (List.mem_of_getElem? (i := 0) rfl)) (allS (P := fun x => x ∈ _ ∨ _) (Or.inl (List.mem_of_getElem? (i := 1) rfl)) (allS (P := fun x => x ∈ _ ∨ _) (Or.inl (List.mem_of_getElem? (i := 2) rfl)) all0)))
  obtain ⟨fsZ, hrZ, hrun, hended, hW, hsame⟩ := X1.leave (v := none) (fun _ => rfl)
  refine ⟨_, _, pre0 _ ?_, hrun, hended, _, _, rfl, ?_, ⟨_, rfl⟩, hW, hsame.mono (by decide) (by decide)⟩
  · show Steps _ _ _ (s₁.setTop (mkF m 0 #[.val (.ref r)] [])) _
    refine XS.aloadN X0.here hx rfl (hb hby d3_0) rfl rfl ?_
    refine XS.iconst X0.here hx rfl (hb hby d3_1) ?_
    show Steps _ _ _ (s₁.setTop (mkF m 2 #[.val (.ref r)] [(.int (-1)), (.ref r)])) _
    refine st1.trans ?_
    show Steps _ _ _ (T1.setTop (mkF m 5 #[.val (.ref r)] [])) _
    exact X1.returnOut hx Bd.returns (hb hby d3_5) hrZ
  · show Q3d0 Z r ka ia kk ki x0 x1 h0 n0 _ T1.heap _
    exact ⟨rfl, N1, K3, f1_0, f1_1, f1_2, f1_3, f1_4, f1_5⟩
theorem ef4d1 (m : MethodId) (r : Addr) : entryFrame m #[(.ref r), (.int (-1))] 2 = mkF m 0 #[.val (.ref r), .val (.int (-1))] [] := by first | (simp [entryFrame, mkF, argsToLocals, Value.category]; done) | rfl
def Q4d1 (Z : State) (r : Addr) (ka : Addr) (ia : Addr) (kk : ClassId) (ki : ClassId) (x0 : Int32) (x1 : Int32) (h0 : Heap) (n0 : Nat) (v : Option Value) (h : Heap) (L : List Loc) : Prop := v = none ∧ Fr n0 L ∧ Keep h0 h [r, ka, ia] ∧ Exa Z h r oJ ∧ Fld Z h r oJ "keys" "[Ljava/lang/String;" (.ref ka) ∧ Fld Z h r oJ "indexes" "[I" (.ref ia) ∧ Fld Z h r oJ "depth" "I" (.int 2) ∧ Arv Z h ka kk (.object oS) (16 : Int32) [] .null ∧ Arv Z h ia ki .int (16 : Int32) [(.int x0), (.int (-1))] (.int 0)
theorem rm4d1 (l : Launch) (Z : State) (a0 : Array Value) (hw : ∀ d ∈ tables_1, d.before a0 Z = true) (ws : List Jvm.Cond) (r : Addr) (ka : Addr) (ia : Addr) (kk : ClassId) (ki : ClassId) (x0 : Int32) (x1 : Int32) (h0 : Heap) (n0 : Nat) (Z0 : n0 ≤ h0.size) (F0 : Exa Z h0 r oJ) (F1 : Fld Z h0 r oJ "keys" "[Ljava/lang/String;" (.ref ka)) (F2 : Fld Z h0 r oJ "indexes" "[I" (.ref ia)) (F3 : Fld Z h0 r oJ "depth" "I" (.int 1)) (F4 : Arv Z h0 ka kk (.object oS) (16 : Int32) [] .null) (F5 : Arv Z h0 ia ki .int (16 : Int32) [(.int x0), (.int x1)] (.int 0)) (gx1 : n0 ≤ r) (gx2 : n0 ≤ ka) (gx3 : n0 ≤ ia) (nx1 : r ≠ ka) (nx2 : r ≠ ia) (nx3 : ka ≠ ia) :
    MetFree l oM1 (head1 (Jvm.Cond.code oM1 prog_48_method_12_code 2 none :: ws) oR1) (fun a U => a = #[(.ref r), (.int (-1))] ∧ Z.Warmed39 U.vm ∧ U.heap = h0) (fun _ _ _ _ _ => True) (fun _ U o U' => ∃ v L, o = .returned v ∧ Q4d1 Z r ka ia kk ki x0 x1 h0 n0 v U'.heap L ∧ FrameEnd U o U' L oR1.cells oR1.slots) := by
  refine MetFree.of_bodySF (plainFor_of_name pn0) hisR ?_
  intro p e s m args below meth c s₁ Bd hml0 hP hK
  obtain ⟨rfl, hZ, hh⟩ := hP
  have hx := Bd.exec
  have hby := Bd.bytes
  have hml : c.maxLocals = 2 := hml0
  have hown : s.vm.findClass oJ = some m.cls := findClass_of_methodNamed Bd.named
  have hnm := (name_of_methodNamed Bd.named Bd.method).1
  have X0 : Stand p l e oR1 s m #[(.ref r), (.int (-1))] below meth c s₁ [] 0 0 := Stand.of_body Bd
  have e0 : s₁.heap = h0 := by rw [← hh, Bd.state]; rfl
  have N0 := Fr.nil n0
  have pre0 : ∀ tZ, Steps p.tables e below (s₁.setTop (mkF m 0 #[.val (.ref r), .val (.int (-1))] [])) tZ → Steps p.tables e below (s₁.setTop (entryFrame m #[(.ref r), (.int (-1))] 2)) tZ := fun tZ kZ => castTop (ef4d1 m r) kZ
  obtain ⟨T1, X1, e1, st1⟩ := getF X0 hx hZ hown (host := "") (Or.inl (ow hw 34 rfl)) Via.refl e0 F3 (g := (mkF m 1 #[.val (.ref r), .val (.int (-1))] [(.ref r)])) rfl rfl (hb hby d4_1)
  obtain ⟨T2, X2, e2, st2⟩ := getF X1 hx hZ hown (host := "") (Or.inl (ow hw 34 rfl)) Via.refl e1 F3 (g := (mkF m 18 #[.val (.ref r), .val (.int (-1))] [(.ref r)])) rfl rfl (hb hby d4_18)
  obtain ⟨T3, X3, e3, st3⟩ := getF X2 hx hZ hown (host := "") (Or.inl (ow hw 20 rfl)) Via.refl e2 F1 (g := (mkF m 22 #[.val (.ref r), .val (.int (-1))] [(.ref r), (.int 1)])) rfl rfl (hb hby d4_22)
  obtain ⟨c4, Arc4, -, Sc4, Mc4, -, -⟩ := id F4
  obtain ⟨T5, X5, e5, st5⟩ := getF X3 hx hZ hown (host := "") (Or.inl (ow hw 20 rfl)) Via.refl e3 F1 (g := (mkF m 67 #[.val (.ref r), .val (.int (-1))] [(.ref r)])) rfl rfl (hb hby d4_67)
  obtain ⟨T6, X6, e6, st6⟩ := getF X5 hx hZ hown (host := "") (Or.inl (ow hw 34 rfl)) Via.refl e5 F3 (g := (mkF m 71 #[.val (.ref r), .val (.int (-1))] [(.ref r), (.ref ka)])) rfl rfl (hb hby d4_71)
  obtain ⟨c7, Arc7, qc7, Sc7, Mc7, Hc7, Gc7⟩ := id F4
  have hinc7 : ¬ ((1 : Int32) < 0 ∨ c7.slots.size ≤ ((1 : Int32)).toNatClampNeg) := inb_of Sc7 ⟨by decide, by decide⟩
  obtain ⟨T8, h8, X8, e8, W8, st8⟩ := stR X6 hx hZ e6 Arc7 (j := (1 : Int32)) hinc7 rfl (Or.inl rfl) (g := (mkF m 75 #[.val (.ref r), .val (.int (-1))] [.null, (.int 1), (.ref ka)])) rfl rfl (hb hby d4_75)
  have V8 : Arv Z h8 ka kk (.object oS) (16 : Int32) [] .null := own_nul F4 W8
  have Z9 : n0 ≤ h8.size := Nat.le_trans Z0 (Nat.le_of_eq W8.size.symm)
  have K10 : Keep h0 h8 [r, ka, ia] := (Keep.refl h0 [r, ka, ia]).wr W8 (Or.inl (List.mem_of_getElem? (i := 1) rfl))
  have N8 := Fr.snoc X8 N0 gx2
  have fa11 := (F2.other W8 (Or.inl nx1))
  obtain ⟨T12, X12, e12, st12⟩ := getF X8 hx hZ hown (host := "") (Or.inl (ow hw 23 rfl)) Via.refl e8 fa11 (g := (mkF m 77 #[.val (.ref r), .val (.int (-1))] [(.ref r)])) rfl rfl (hb hby d4_77)
  have fa13 := (F3.other W8 (Or.inl nx1))
  obtain ⟨T14, X14, e14, st14⟩ := getF X12 hx hZ hown (host := "") (Or.inl (ow hw 34 rfl)) Via.refl e12 fa13 (g := (mkF m 81 #[.val (.ref r), .val (.int (-1))] [(.ref r), (.ref ia)])) rfl rfl (hb hby d4_81)
  have fa15 := (F5.other W8 (Ne.symm nx3))
  obtain ⟨c16, Arc16, qc16, Sc16, Mc16, Hc16, Gc16⟩ := id fa15
  have hinc16 : ¬ ((1 : Int32) < 0 ∨ c16.slots.size ≤ ((1 : Int32)).toNatClampNeg) := inb_of Sc16 ⟨by decide, by decide⟩
  obtain ⟨T17, h17, X17, e17, W17, st17⟩ := stI X14 hx hZ e14 Arc16 (j := (1 : Int32)) hinc16  (g := (mkF m 85 #[.val (.ref r), .val (.int (-1))] [(.int (-1)), (.int 1), (.ref ia)])) rfl rfl (hb hby d4_85)
  have V17 : Arv Z h17 ia ki .int (16 : Int32) [(.int x0), (.int (-1))] (.int 0) := Arv.set Arc16 qc16 Sc16 Mc16 Hc16 Gc16 rfl W17 1 rfl (Nat.le_of_ble_eq_true rfl)
  have Z18 : n0 ≤ h17.size := Nat.le_trans Z9 (Nat.le_of_eq W17.size.symm)
  have K19 : Keep h0 h17 [r, ka, ia] := K10.wr W17 (Or.inl (List.mem_of_getElem? (i := 2) rfl))
  have N17 := Fr.snoc X17 N8 gx3
  have fa20 := (fa13.other W17 (Or.inl nx2))
  obtain ⟨T21, X21, e21, st21⟩ := getF X17 hx hZ hown (host := "") (Or.inl (ow hw 34 rfl)) Via.refl e17 fa20 (g := (mkF m 88 #[.val (.ref r), .val (.int (-1))] [(.ref r), (.ref r)])) rfl rfl (hb hby d4_88)
  have fa22 := ((F0.wr W8).wr W17)
  obtain ⟨T23, h23, X23, e23, W23, st23⟩ := putF X21 hx hZ hown (host := "") (Or.inl (ow hw 34 rfl)) Via.refl e21 fa20 fa22 (Or.inl (ow hw 35 rfl)) (ow hw 10 rfl) (ty := .int) (by decide) rfl rfl (g := (mkF m 93 #[.val (.ref r), .val (.int (-1))] [(.int 2), (.ref r)])) rfl rfl (hb hby d4_93)
  have fw23 : Fld Z h23 r oJ "depth" "I" (.int 2) := fa20.same W23
  have Z24 : n0 ≤ h23.size := Nat.le_trans Z18 (Nat.le_of_eq W23.size.symm)
  have K25 : Keep h0 h23 [r, ka, ia] := K19.wr W23 (Or.inl (List.mem_of_getElem? (i := 0) rfl))
  have N23 := Fr.snoc X23 N17 gx1
  obtain ⟨fsZ, hrZ, hrun, hended, hW, hsame⟩ := X23.leave (v := none) (fun _ => rfl)
  have fa26 := (fa22.wr W23)
  have fa27 := (((F1.other W8 (Or.inl nx1)).other W17 (Or.inl nx2)).other W23 (Or.inr (slot_ne (Or.inl (ow hw 21 rfl)) (Or.inl (ow hw 35 rfl)) (by decide) (t := (.array (.object oS))) (t' := .int) (by decide) (by decide))))
  have fa28 := ((fa11.other W17 (Or.inl nx2)).other W23 (Or.inr (slot_ne (Or.inl (ow hw 24 rfl)) (Or.inl (ow hw 35 rfl)) (by decide) (t := (.array .int)) (t' := .int) (by decide) (by decide))))
  have fa29 := ((V8.other W17 nx3).other W23 (Ne.symm nx1))
  have fa30 := (V17.other W23 (Ne.symm nx2))
  refine ⟨_, _, pre0 _ ?_, hrun, hended, _, _, rfl, ?_, ⟨_, rfl⟩, hW, hsame.mono (by decide) (by decide)⟩
  · show Steps _ _ _ (s₁.setTop (mkF m 0 #[.val (.ref r), .val (.int (-1))] [])) _
    refine XS.aloadN X0.here hx rfl (hb hby d4_0) rfl rfl ?_
    show Steps _ _ _ (s₁.setTop (mkF m 1 #[.val (.ref r), .val (.int (-1))] [(.ref r)])) _
    refine st1 _ ?_
    refine XS.sipush X1.here hx rfl (hb hby d4_4) ?_
    refine XS.icmpYes X1.here hx rfl (pc0 := 7) (pc' := 17) rfl (hb hby d4_7) rfl (feq (by decide)).2 (by decide) (by decide) ?_
    refine XS.aloadN X1.here hx rfl (hb hby d4_17) rfl rfl ?_
    show Steps _ _ _ (T1.setTop (mkF m 18 #[.val (.ref r), .val (.int (-1))] [(.ref r)])) _
    refine st2 _ ?_
    refine XS.aloadN X2.here hx rfl (hb hby d4_21) rfl rfl ?_
    show Steps _ _ _ (T2.setTop (mkF m 22 #[.val (.ref r), .val (.int (-1))] [(.ref r), (.int 1)])) _
    refine st3 _ ?_
    show Steps _ _ _ (T3.setTop (mkF m 25 #[.val (.ref r), .val (.int (-1))] [(.ref ka), (.int 1)])) _
    refine X3.arraylength hx (by rw [e3]; exact Arc4.1) (State.isArrayOf_alike hZ.alike Arc4.2.1) (g := (mkF m 25 #[.val (.ref r), .val (.int (-1))] [(.ref ka), (.int 1)])) rfl rfl (hb hby d4_25) _ ?_
    rw [len_of Sc4 Mc4]
    show Steps _ _ _ (T3.setTop (mkF m 26 #[.val (.ref r), .val (.int (-1))] [(.int 16), (.int 1)])) _
    refine XS.icmpYes X3.here hx rfl (pc0 := 26) (pc' := 66) rfl (hb hby d4_26) rfl (feq (by decide)).2 (by decide) (by decide) ?_
    refine XS.aloadN X3.here hx rfl (hb hby d4_66) rfl rfl ?_
    show Steps _ _ _ (T3.setTop (mkF m 67 #[.val (.ref r), .val (.int (-1))] [(.ref r)])) _
    refine st5 _ ?_
    refine XS.aloadN X5.here hx rfl (hb hby d4_70) rfl rfl ?_
    show Steps _ _ _ (T5.setTop (mkF m 71 #[.val (.ref r), .val (.int (-1))] [(.ref r), (.ref ka)])) _
    refine st6 _ ?_
    refine XS.aconstNull X6.here hx rfl (hb hby d4_74) ?_
    show Steps _ _ _ (T6.setTop (mkF m 75 #[.val (.ref r), .val (.int (-1))] [.null, (.int 1), (.ref ka)])) _
    refine st8 _ ?_
    refine XS.aloadN X8.here hx rfl (hb hby d4_76) rfl rfl ?_
    show Steps _ _ _ (T8.setTop (mkF m 77 #[.val (.ref r), .val (.int (-1))] [(.ref r)])) _
    refine st12 _ ?_
    refine XS.aloadN X12.here hx rfl (hb hby d4_80) rfl rfl ?_
    show Steps _ _ _ (T12.setTop (mkF m 81 #[.val (.ref r), .val (.int (-1))] [(.ref r), (.ref ia)])) _
    refine st14 _ ?_
    refine XS.iloadN X14.here hx rfl (hb hby d4_84) rfl  ?_
    show Steps _ _ _ (T14.setTop (mkF m 85 #[.val (.ref r), .val (.int (-1))] [(.int (-1)), (.int 1), (.ref ia)])) _
    refine st17 _ ?_
    refine XS.aloadN X17.here hx rfl (hb hby d4_86) rfl rfl ?_
    refine XS.dup X17.here hx rfl (hb hby d4_87) rfl rfl ?_
    show Steps _ _ _ (T17.setTop (mkF m 88 #[.val (.ref r), .val (.int (-1))] [(.ref r), (.ref r)])) _
    refine st21 _ ?_
    refine XS.iconst X21.here hx rfl (hb hby d4_91) ?_
    refine XS.iadd X21.here hx rfl (hb hby d4_92) rfl ?_
    show Steps _ _ _ (T21.setTop (mkF m 93 #[.val (.ref r), .val (.int (-1))] [(.int ((1 : Int32) + (1 : Int32))), (.ref r)])) _
    rw [show ((1 : Int32) + (1 : Int32)) = (2 : Int32) from by decide]
    show Steps _ _ _ (T21.setTop (mkF m 93 #[.val (.ref r), .val (.int (-1))] [(.int 2), (.ref r)])) _
    refine st23 _ ?_
    show Steps _ _ _ (T23.setTop (mkF m 96 #[.val (.ref r), .val (.int (-1))] [])) _
    exact X23.returnOut hx Bd.returns (hb hby d4_96) hrZ
  · show Q4d1 Z r ka ia kk ki x0 x1 h0 n0 _ T23.heap _
    rw [e23]
    exact ⟨rfl, N23, K25, fa26, fa27, fa28, fw23, fa29, fa30⟩
theorem ef3d1 (m : MethodId) (r : Addr) : entryFrame m #[(.ref r)] 1 = mkF m 0 #[.val (.ref r)] [] := by first | (simp [entryFrame, mkF, argsToLocals, Value.category]; done) | rfl
def Q3d1 (Z : State) (r : Addr) (ka : Addr) (ia : Addr) (kk : ClassId) (ki : ClassId) (x0 : Int32) (x1 : Int32) (h0 : Heap) (n0 : Nat) (v : Option Value) (h : Heap) (L : List Loc) : Prop := v = none ∧ Fr n0 L ∧ Keep h0 h [r, ka, ia] ∧ Exa Z h r oJ ∧ Fld Z h r oJ "keys" "[Ljava/lang/String;" (.ref ka) ∧ Fld Z h r oJ "indexes" "[I" (.ref ia) ∧ Fld Z h r oJ "depth" "I" (.int 2) ∧ Arv Z h ka kk (.object oS) (16 : Int32) [] .null ∧ Arv Z h ia ki .int (16 : Int32) [(.int x0), (.int (-1))] (.int 0)
theorem rm3d1 (l : Launch) (Z : State) (a0 : Array Value) (hw : ∀ d ∈ tables_1, d.before a0 Z = true) (ws : List Jvm.Cond) (r : Addr) (ka : Addr) (ia : Addr) (kk : ClassId) (ki : ClassId) (x0 : Int32) (x1 : Int32) (h0 : Heap) (n0 : Nat) (Z0 : n0 ≤ h0.size) (F0 : Exa Z h0 r oJ) (F1 : Fld Z h0 r oJ "keys" "[Ljava/lang/String;" (.ref ka)) (F2 : Fld Z h0 r oJ "indexes" "[I" (.ref ia)) (F3 : Fld Z h0 r oJ "depth" "I" (.int 1)) (F4 : Arv Z h0 ka kk (.object oS) (16 : Int32) [] .null) (F5 : Arv Z h0 ia ki .int (16 : Int32) [(.int x0), (.int x1)] (.int 0)) (gx1 : n0 ≤ r) (gx2 : n0 ≤ ka) (gx3 : n0 ≤ ia) (nx1 : r ≠ ka) (nx2 : r ≠ ia) (nx3 : ka ≠ ia) :
    MetFree l oM2 (head1 (Jvm.Cond.code oM2 prog_48_method_4_code 1 none :: ws) oR2) (fun a U => a = #[(.ref r)] ∧ Z.Warmed39 U.vm ∧ U.heap = h0) (fun _ _ _ _ _ => True) (fun _ U o U' => ∃ v L, o = .returned v ∧ Q3d1 Z r ka ia kk ki x0 x1 h0 n0 v U'.heap L ∧ FrameEnd U o U' L oR2.cells oR2.slots) := by
  refine MetFree.of_bodySF (plainFor_of_name pn0) hisR ?_
  intro p e s m args below meth c s₁ Bd hml0 hP hK
  obtain ⟨rfl, hZ, hh⟩ := hP
  have hx := Bd.exec
  have hby := Bd.bytes
  have hml : c.maxLocals = 1 := hml0
  have hown : s.vm.findClass oJ = some m.cls := findClass_of_methodNamed Bd.named
  have hnm := (name_of_methodNamed Bd.named Bd.method).1
  have X0 : Stand p l e oR2 s m #[(.ref r)] below meth c s₁ [] 0 0 := Stand.of_body Bd
  have e0 : s₁.heap = h0 := by rw [← hh, Bd.state]; rfl
  have N0 := Fr.nil n0
  have pre0 : ∀ tZ, Steps p.tables e below (s₁.setTop (mkF m 0 #[.val (.ref r)] [])) tZ → Steps p.tables e below (s₁.setTop (entryFrame m #[(.ref r)] 1)) tZ := fun tZ kZ => castTop (ef3d1 m r) kZ
  obtain ⟨cq1, q1, q1'⟩ := F0.cell
  obtain ⟨_, _, ⟨T1, L1, k1, n1⟩, -, X1, ⟨Lc1, hQ1, l1, y1, z1⟩, st1⟩ := X0.privateBack hx (y := oM1) hown (mvT hZ (ow hw 30 rfl)) (mvT hZ (ow hw 31 rfl)) (own_sel hZ (ow hw 10 rfl) (ow hw 32 rfl) (ow hw 31 rfl) (by decide)) (Cond.privateMethod_at (mvP hZ (ow hw 32 rfl) (args := #[]))) (mvT hZ (ow hw 33 rfl)) (by decide) (backOf (W := 0) (rm4d1 l Z a0 hw [] r ka ia kk ki x0 x1 h0 n0 Z0 F0 F1 F2 F3 F4 F5 gx1 gx2 gx3 nx1 nx2 nx3) hZ (ow hw 33 rfl) (ow hw 11 rfl) (by decide) (by decide)) (g := (mkF m 2 #[.val (.ref r)] [(.int (-1)), (.ref r)])) rfl (by rw [hml]; rfl) (Steps.refl _) (a := r) (by rw [e0]; exact q1) q1' (argsL := [(.int (-1))]) (rest := []) (lenOf pd1 rfl) rfl (Nat.le_of_eq rfl) (hb hby d3_2) (fun _ _ => ⟨rfl, e0, (by decide : 0 + 0 ≤ _), (by decide : 0 + 0 ≤ _)⟩)
  dsimp only [Pt.U, Pt.locs, Pt.cells, Pt.slots] at X1 l1 y1 z1 st1 hQ1
  subst l1 y1 z1
  obtain ⟨rfl, N1q, K1, f1_0, f1_1, f1_2, f1_3, f1_4, f1_5⟩ := hQ1
  have N1 := Fr.app N0 N1q
  have Z2 : n0 ≤ T1.heap.size := Nat.le_trans Z0 K1.1
  have K3 : Keep h0 T1.heap [r, ka, ia] := (Keep.refl h0 [r, ka, ia]).trans K1 (allS (P := fun x => x ∈ _ ∨ _) (Or.inl (List.mem_of_getElem? (i := 0) rfl)) (allS (P := fun x => x ∈ _ ∨ _) (Or.inl (List.mem_of_getElem? (i := 1) rfl)) (allS (P := fun x => x ∈ _ ∨ _) (Or.inl (List.mem_of_getElem? (i := 2) rfl)) all0)))
  obtain ⟨fsZ, hrZ, hrun, hended, hW, hsame⟩ := X1.leave (v := none) (fun _ => rfl)
  refine ⟨_, _, pre0 _ ?_, hrun, hended, _, _, rfl, ?_, ⟨_, rfl⟩, hW, hsame.mono (by decide) (by decide)⟩
  · show Steps _ _ _ (s₁.setTop (mkF m 0 #[.val (.ref r)] [])) _
    refine XS.aloadN X0.here hx rfl (hb hby d3_0) rfl rfl ?_
    refine XS.iconst X0.here hx rfl (hb hby d3_1) ?_
    show Steps _ _ _ (s₁.setTop (mkF m 2 #[.val (.ref r)] [(.int (-1)), (.ref r)])) _
    refine st1.trans ?_
    show Steps _ _ _ (T1.setTop (mkF m 5 #[.val (.ref r)] [])) _
    exact X1.returnOut hx Bd.returns (hb hby d3_5) hrZ
  · show Q3d1 Z r ka ia kk ki x0 x1 h0 n0 _ T1.heap _
    exact ⟨rfl, N1, K3, f1_0, f1_1, f1_2, f1_3, f1_4, f1_5⟩
theorem d29_0 : decode prog_48_method_9_code 0 = .ok (.aload_n 0, 1) := by decide +kernel
theorem d29_1 : decode prog_48_method_9_code 1 = .ok (.getfield 15, 3) := by decide +kernel
theorem d29_4 : decode prog_48_method_9_code 4 = .ok (.aload_n 0, 1) := by decide +kernel
theorem d29_5 : decode prog_48_method_9_code 5 = .ok (.getfield 19, 3) := by decide +kernel
theorem d29_8 : decode prog_48_method_9_code 8 = .ok (.iconst 1, 1) := by decide +kernel
theorem d29_9 : decode prog_48_method_9_code 9 = .ok (.isub, 1) := by decide +kernel
theorem d29_10 : decode prog_48_method_9_code 10 = .ok (.dup2, 1) := by decide +kernel
theorem d29_11 : decode prog_48_method_9_code 11 = .ok (.iaload, 1) := by decide +kernel
theorem d29_12 : decode prog_48_method_9_code 12 = .ok (.iconst 1, 1) := by decide +kernel
theorem d29_13 : decode prog_48_method_9_code 13 = .ok (.iadd, 1) := by decide +kernel
theorem d29_14 : decode prog_48_method_9_code 14 = .ok (.iastore, 1) := by decide +kernel
theorem d29_15 : decode prog_48_method_9_code 15 = .ok (.return_, 1) := by decide +kernel
theorem ef29d1 (m : MethodId) (r : Addr) : entryFrame m #[(.ref r)] 1 = mkF m 0 #[.val (.ref r)] [] := by first | (simp [entryFrame, mkF, argsToLocals, Value.category]; done) | rfl
def Q29d1 (Z : State) (r : Addr) (ka : Addr) (ia : Addr) (kk : ClassId) (ki : ClassId) (x0 : Int32) (x1 : Int32) (h0 : Heap) (n0 : Nat) (v : Option Value) (h : Heap) (L : List Loc) : Prop := v = none ∧ Fr n0 L ∧ Keep h0 h [ia] ∧ Arv Z h ia ki .int (16 : Int32) [(.int (x0 + (1 : Int32))), (.int x1)] (.int 0)
theorem rm29d1 (l : Launch) (Z : State) (a0 : Array Value) (hw : ∀ d ∈ tables_1, d.before a0 Z = true) (ws : List Jvm.Cond) (r : Addr) (ka : Addr) (ia : Addr) (kk : ClassId) (ki : ClassId) (x0 : Int32) (x1 : Int32) (h0 : Heap) (n0 : Nat) (Z0 : n0 ≤ h0.size) (F0 : Exa Z h0 r oJ) (F1 : Fld Z h0 r oJ "keys" "[Ljava/lang/String;" (.ref ka)) (F2 : Fld Z h0 r oJ "indexes" "[I" (.ref ia)) (F3 : Fld Z h0 r oJ "depth" "I" (.int 1)) (F4 : Arv Z h0 ka kk (.object oS) (16 : Int32) [] .null) (F5 : Arv Z h0 ia ki .int (16 : Int32) [(.int x0), (.int x1)] (.int 0)) (gx1 : n0 ≤ r) (gx2 : n0 ≤ ka) (gx3 : n0 ≤ ia) (nx1 : r ≠ ka) (nx2 : r ≠ ia) (nx3 : ka ≠ ia) :
    MetFree l oM3 (head1 (Jvm.Cond.code oM3 prog_48_method_9_code 1 none :: ws) oR1) (fun a U => a = #[(.ref r)] ∧ Z.Warmed39 U.vm ∧ U.heap = h0) (fun _ _ _ _ _ => True) (fun _ U o U' => ∃ v L, o = .returned v ∧ Q29d1 Z r ka ia kk ki x0 x1 h0 n0 v U'.heap L ∧ FrameEnd U o U' L oR1.cells oR1.slots) := by
  refine MetFree.of_bodySF (plainFor_of_name pn0) hisR ?_
  intro p e s m args below meth c s₁ Bd hml0 hP hK
  obtain ⟨rfl, hZ, hh⟩ := hP
  have hx := Bd.exec
  have hby := Bd.bytes
  have hml : c.maxLocals = 1 := hml0
  have hown : s.vm.findClass oJ = some m.cls := findClass_of_methodNamed Bd.named
  have hnm := (name_of_methodNamed Bd.named Bd.method).1
  have X0 : Stand p l e oR1 s m #[(.ref r)] below meth c s₁ [] 0 0 := Stand.of_body Bd
  have e0 : s₁.heap = h0 := by rw [← hh, Bd.state]; rfl
  have N0 := Fr.nil n0
  have pre0 : ∀ tZ, Steps p.tables e below (s₁.setTop (mkF m 0 #[.val (.ref r)] [])) tZ → Steps p.tables e below (s₁.setTop (entryFrame m #[(.ref r)] 1)) tZ := fun tZ kZ => castTop (ef29d1 m r) kZ
  obtain ⟨T1, X1, e1, st1⟩ := getF X0 hx hZ hown (host := "") (Or.inl (ow hw 23 rfl)) Via.refl e0 F2 (g := (mkF m 1 #[.val (.ref r)] [(.ref r)])) rfl rfl (hb hby d29_1)
  obtain ⟨T2, X2, e2, st2⟩ := getF X1 hx hZ hown (host := "") (Or.inl (ow hw 34 rfl)) Via.refl e1 F3 (g := (mkF m 5 #[.val (.ref r)] [(.ref r), (.ref ia)])) rfl rfl (hb hby d29_5)
  obtain ⟨c3, Arc3, qc3, Sc3, Mc3, Hc3, Gc3⟩ := id F5
  have hinc3 : ¬ ((0 : Int32) < 0 ∨ c3.slots.size ≤ ((0 : Int32)).toNatClampNeg) := inb_of Sc3 ⟨by decide, by decide⟩
  have hatc3 : c3.slots[((0 : Int32)).toNatClampNeg]? = some (.int x0) := Hc3.at hinc3 rfl
  obtain ⟨c4, Arc4, qc4, Sc4, Mc4, Hc4, Gc4⟩ := id F5
  have hinc4 : ¬ ((0 : Int32) < 0 ∨ c4.slots.size ≤ ((0 : Int32)).toNatClampNeg) := inb_of Sc4 ⟨by decide, by decide⟩
  obtain ⟨T5, h5, X5, e5, W5, st5⟩ := stI X2 hx hZ e2 Arc4 (j := (0 : Int32)) hinc4  (g := (mkF m 14 #[.val (.ref r)] [(.int (x0 + (1 : Int32))), (.int 0), (.ref ia)])) rfl rfl (hb hby d29_14)
  have V5 : Arv Z h5 ia ki .int (16 : Int32) [(.int (x0 + (1 : Int32))), (.int x1)] (.int 0) := Arv.set Arc4 qc4 Sc4 Mc4 Hc4 Gc4 rfl W5 0 rfl (Nat.le_of_ble_eq_true rfl)
  have Z6 : n0 ≤ h5.size := Nat.le_trans Z0 (Nat.le_of_eq W5.size.symm)
  have K7 : Keep h0 h5 [ia] := (Keep.refl h0 [ia]).wr W5 (Or.inl (List.mem_of_getElem? (i := 0) rfl))
  have N5 := Fr.snoc X5 N0 gx3
  obtain ⟨fsZ, hrZ, hrun, hended, hW, hsame⟩ := X5.leave (v := none) (fun _ => rfl)
  refine ⟨_, _, pre0 _ ?_, hrun, hended, _, _, rfl, ?_, ⟨_, rfl⟩, hW, hsame.mono (by decide) (by decide)⟩
  · show Steps _ _ _ (s₁.setTop (mkF m 0 #[.val (.ref r)] [])) _
    refine XS.aloadN X0.here hx rfl (hb hby d29_0) rfl rfl ?_
    show Steps _ _ _ (s₁.setTop (mkF m 1 #[.val (.ref r)] [(.ref r)])) _
    refine st1 _ ?_
    refine XS.aloadN X1.here hx rfl (hb hby d29_4) rfl rfl ?_
    show Steps _ _ _ (T1.setTop (mkF m 5 #[.val (.ref r)] [(.ref r), (.ref ia)])) _
    refine st2 _ ?_
    refine XS.iconst X2.here hx rfl (hb hby d29_8) ?_
    refine XS.isub X2.here hx rfl (hb hby d29_9) rfl ?_
    show Steps _ _ _ (T2.setTop (mkF m 10 #[.val (.ref r)] [(.int ((1 : Int32) - (1 : Int32))), (.ref ia)])) _
    rw [show ((1 : Int32) - (1 : Int32)) = (0 : Int32) from by decide]
    show Steps _ _ _ (T2.setTop (mkF m 10 #[.val (.ref r)] [(.int 0), (.ref ia)])) _
    refine XT.dup2 X2.here hx rfl (hb hby d29_10) rfl rfl rfl ?_
    show Steps _ _ _ (T2.setTop (mkF m 11 #[.val (.ref r)] [(.int 0), (.ref ia), (.int 0), (.ref ia)])) _
    refine X2.iaload hx (j := (0 : Int32)) (v := (.int x0)) (by rw [e2]; exact Arc3.1) (State.isArrayOf_alike hZ.alike Arc3.2.1) Arc3.2.2 hinc3 hatc3 (g := (mkF m 11 #[.val (.ref r)] [(.int 0), (.ref ia), (.int 0), (.ref ia)])) rfl rfl (hb hby d29_11) _ ?_
    refine XS.iconst X2.here hx rfl (hb hby d29_12) ?_
    refine XS.iadd X2.here hx rfl (hb hby d29_13) rfl ?_
    show Steps _ _ _ (T2.setTop (mkF m 14 #[.val (.ref r)] [(.int (x0 + (1 : Int32))), (.int 0), (.ref ia)])) _
    refine st5 _ ?_
    show Steps _ _ _ (T5.setTop (mkF m 15 #[.val (.ref r)] [])) _
    exact X5.returnOut hx Bd.returns (hb hby d29_15) hrZ
  · show Q29d1 Z r ka ia kk ki x0 x1 h0 n0 _ T5.heap _
    rw [e5]
    exact ⟨rfl, N5, K7, V5⟩
theorem ef29d2 (m : MethodId) (r : Addr) : entryFrame m #[(.ref r)] 1 = mkF m 0 #[.val (.ref r)] [] := by first | (simp [entryFrame, mkF, argsToLocals, Value.category]; done) | rfl
def Q29d2 (Z : State) (r : Addr) (ka : Addr) (ia : Addr) (kk : ClassId) (ki : ClassId) (x0 : Int32) (x1 : Int32) (h0 : Heap) (n0 : Nat) (v : Option Value) (h : Heap) (L : List Loc) : Prop := v = none ∧ Fr n0 L ∧ Keep h0 h [ia] ∧ Arv Z h ia ki .int (16 : Int32) [(.int x0), (.int (x1 + (1 : Int32)))] (.int 0)
theorem rm29d2 (l : Launch) (Z : State) (a0 : Array Value) (hw : ∀ d ∈ tables_1, d.before a0 Z = true) (ws : List Jvm.Cond) (r : Addr) (ka : Addr) (ia : Addr) (kk : ClassId) (ki : ClassId) (x0 : Int32) (x1 : Int32) (h0 : Heap) (n0 : Nat) (Z0 : n0 ≤ h0.size) (F0 : Exa Z h0 r oJ) (F1 : Fld Z h0 r oJ "keys" "[Ljava/lang/String;" (.ref ka)) (F2 : Fld Z h0 r oJ "indexes" "[I" (.ref ia)) (F3 : Fld Z h0 r oJ "depth" "I" (.int 2)) (F4 : Arv Z h0 ka kk (.object oS) (16 : Int32) [] .null) (F5 : Arv Z h0 ia ki .int (16 : Int32) [(.int x0), (.int x1)] (.int 0)) (gx1 : n0 ≤ r) (gx2 : n0 ≤ ka) (gx3 : n0 ≤ ia) (nx1 : r ≠ ka) (nx2 : r ≠ ia) (nx3 : ka ≠ ia) :
    MetFree l oM3 (head1 (Jvm.Cond.code oM3 prog_48_method_9_code 1 none :: ws) oR1) (fun a U => a = #[(.ref r)] ∧ Z.Warmed39 U.vm ∧ U.heap = h0) (fun _ _ _ _ _ => True) (fun _ U o U' => ∃ v L, o = .returned v ∧ Q29d2 Z r ka ia kk ki x0 x1 h0 n0 v U'.heap L ∧ FrameEnd U o U' L oR1.cells oR1.slots) := by
  refine MetFree.of_bodySF (plainFor_of_name pn0) hisR ?_
  intro p e s m args below meth c s₁ Bd hml0 hP hK
  obtain ⟨rfl, hZ, hh⟩ := hP
  have hx := Bd.exec
  have hby := Bd.bytes
  have hml : c.maxLocals = 1 := hml0
  have hown : s.vm.findClass oJ = some m.cls := findClass_of_methodNamed Bd.named
  have hnm := (name_of_methodNamed Bd.named Bd.method).1
  have X0 : Stand p l e oR1 s m #[(.ref r)] below meth c s₁ [] 0 0 := Stand.of_body Bd
  have e0 : s₁.heap = h0 := by rw [← hh, Bd.state]; rfl
  have N0 := Fr.nil n0
  have pre0 : ∀ tZ, Steps p.tables e below (s₁.setTop (mkF m 0 #[.val (.ref r)] [])) tZ → Steps p.tables e below (s₁.setTop (entryFrame m #[(.ref r)] 1)) tZ := fun tZ kZ => castTop (ef29d2 m r) kZ
  obtain ⟨T1, X1, e1, st1⟩ := getF X0 hx hZ hown (host := "") (Or.inl (ow hw 23 rfl)) Via.refl e0 F2 (g := (mkF m 1 #[.val (.ref r)] [(.ref r)])) rfl rfl (hb hby d29_1)
  obtain ⟨T2, X2, e2, st2⟩ := getF X1 hx hZ hown (host := "") (Or.inl (ow hw 34 rfl)) Via.refl e1 F3 (g := (mkF m 5 #[.val (.ref r)] [(.ref r), (.ref ia)])) rfl rfl (hb hby d29_5)
  obtain ⟨c3, Arc3, qc3, Sc3, Mc3, Hc3, Gc3⟩ := id F5
  have hinc3 : ¬ ((1 : Int32) < 0 ∨ c3.slots.size ≤ ((1 : Int32)).toNatClampNeg) := inb_of Sc3 ⟨by decide, by decide⟩
  have hatc3 : c3.slots[((1 : Int32)).toNatClampNeg]? = some (.int x1) := Hc3.at hinc3 rfl
  obtain ⟨c4, Arc4, qc4, Sc4, Mc4, Hc4, Gc4⟩ := id F5
  have hinc4 : ¬ ((1 : Int32) < 0 ∨ c4.slots.size ≤ ((1 : Int32)).toNatClampNeg) := inb_of Sc4 ⟨by decide, by decide⟩
  obtain ⟨T5, h5, X5, e5, W5, st5⟩ := stI X2 hx hZ e2 Arc4 (j := (1 : Int32)) hinc4  (g := (mkF m 14 #[.val (.ref r)] [(.int (x1 + (1 : Int32))), (.int 1), (.ref ia)])) rfl rfl (hb hby d29_14)
  have V5 : Arv Z h5 ia ki .int (16 : Int32) [(.int x0), (.int (x1 + (1 : Int32)))] (.int 0) := Arv.set Arc4 qc4 Sc4 Mc4 Hc4 Gc4 rfl W5 1 rfl (Nat.le_of_ble_eq_true rfl)
  have Z6 : n0 ≤ h5.size := Nat.le_trans Z0 (Nat.le_of_eq W5.size.symm)
  have K7 : Keep h0 h5 [ia] := (Keep.refl h0 [ia]).wr W5 (Or.inl (List.mem_of_getElem? (i := 0) rfl))
  have N5 := Fr.snoc X5 N0 gx3
  obtain ⟨fsZ, hrZ, hrun, hended, hW, hsame⟩ := X5.leave (v := none) (fun _ => rfl)
  refine ⟨_, _, pre0 _ ?_, hrun, hended, _, _, rfl, ?_, ⟨_, rfl⟩, hW, hsame.mono (by decide) (by decide)⟩
  · show Steps _ _ _ (s₁.setTop (mkF m 0 #[.val (.ref r)] [])) _
    refine XS.aloadN X0.here hx rfl (hb hby d29_0) rfl rfl ?_
    show Steps _ _ _ (s₁.setTop (mkF m 1 #[.val (.ref r)] [(.ref r)])) _
    refine st1 _ ?_
    refine XS.aloadN X1.here hx rfl (hb hby d29_4) rfl rfl ?_
    show Steps _ _ _ (T1.setTop (mkF m 5 #[.val (.ref r)] [(.ref r), (.ref ia)])) _
    refine st2 _ ?_
    refine XS.iconst X2.here hx rfl (hb hby d29_8) ?_
    refine XS.isub X2.here hx rfl (hb hby d29_9) rfl ?_
    show Steps _ _ _ (T2.setTop (mkF m 10 #[.val (.ref r)] [(.int ((2 : Int32) - (1 : Int32))), (.ref ia)])) _
    rw [show ((2 : Int32) - (1 : Int32)) = (1 : Int32) from by decide]
    show Steps _ _ _ (T2.setTop (mkF m 10 #[.val (.ref r)] [(.int 1), (.ref ia)])) _
    refine XT.dup2 X2.here hx rfl (hb hby d29_10) rfl rfl rfl ?_
    show Steps _ _ _ (T2.setTop (mkF m 11 #[.val (.ref r)] [(.int 1), (.ref ia), (.int 1), (.ref ia)])) _
    refine X2.iaload hx (j := (1 : Int32)) (v := (.int x1)) (by rw [e2]; exact Arc3.1) (State.isArrayOf_alike hZ.alike Arc3.2.1) Arc3.2.2 hinc3 hatc3 (g := (mkF m 11 #[.val (.ref r)] [(.int 1), (.ref ia), (.int 1), (.ref ia)])) rfl rfl (hb hby d29_11) _ ?_
    refine XS.iconst X2.here hx rfl (hb hby d29_12) ?_
    refine XS.iadd X2.here hx rfl (hb hby d29_13) rfl ?_
    show Steps _ _ _ (T2.setTop (mkF m 14 #[.val (.ref r)] [(.int (x1 + (1 : Int32))), (.int 1), (.ref ia)])) _
    refine st5 _ ?_
    show Steps _ _ _ (T5.setTop (mkF m 15 #[.val (.ref r)] [])) _
    exact X5.returnOut hx Bd.returns (hb hby d29_15) hrZ
  · show Q29d2 Z r ka ia kk ki x0 x1 h0 n0 _ T5.heap _
    rw [e5]
    exact ⟨rfl, N5, K7, V5⟩
theorem d23_0 : decode prog_48_method_2_code 0 = .ok (.aload_n 0, 1) := by decide +kernel
theorem d23_1 : decode prog_48_method_2_code 1 = .ok (.getfield 19, 3) := by decide +kernel
theorem d23_4 : decode prog_48_method_2_code 4 = .ok (.ireturn, 1) := by decide +kernel
theorem ef23 (m : MethodId) (r : Addr) : entryFrame m #[(.ref r)] 1 = mkF m 0 #[.val (.ref r)] [] := by first | (simp [entryFrame, mkF, argsToLocals, Value.category]; done) | rfl
def Q23 (Z : State) (r : Addr) (h0 : Heap) (n0 : Nat) (v : Option Value) (h : Heap) (L : List Loc) : Prop := v = some (.int 2) ∧ Fr n0 L ∧ h = h0
theorem rm23 (l : Launch) (Z : State) (a0 : Array Value) (hw : ∀ d ∈ tables_1, d.before a0 Z = true) (ws : List Jvm.Cond) (r : Addr) (h0 : Heap) (n0 : Nat) (Z0 : n0 ≤ h0.size) (F3 : Fld Z h0 r oJ "depth" "I" (.int 2)) :
    MetFree l oM4 (head1 (Jvm.Cond.code oM4 prog_48_method_2_code 1 (some .int) :: ws) oR1) (fun a U => a = #[(.ref r)] ∧ Z.Warmed39 U.vm ∧ U.heap = h0) (fun _ _ _ _ _ => True) (fun _ U o U' => ∃ v L, o = .returned v ∧ Q23 Z r h0 n0 v U'.heap L ∧ FrameEnd U o U' L oR1.cells oR1.slots) := by
  refine MetFree.of_bodySF (plainFor_of_name pn0) hisR ?_
  intro p e s m args below meth c s₁ Bd hml0 hP hK
  obtain ⟨rfl, hZ, hh⟩ := hP
  have hx := Bd.exec
  have hby := Bd.bytes
  have hml : c.maxLocals = 1 := hml0
  have hown : s.vm.findClass oJ = some m.cls := findClass_of_methodNamed Bd.named
  have hnm := (name_of_methodNamed Bd.named Bd.method).1
  have X0 : Stand p l e oR1 s m #[(.ref r)] below meth c s₁ [] 0 0 := Stand.of_body Bd
  have e0 : s₁.heap = h0 := by rw [← hh, Bd.state]; rfl
  have N0 := Fr.nil n0
  have pre0 : ∀ tZ, Steps p.tables e below (s₁.setTop (mkF m 0 #[.val (.ref r)] [])) tZ → Steps p.tables e below (s₁.setTop (entryFrame m #[(.ref r)] 1)) tZ := fun tZ kZ => castTop (ef23 m r) kZ
  obtain ⟨T1, X1, e1, st1⟩ := getF X0 hx hZ hown (host := "") (Or.inl (ow hw 34 rfl)) Via.refl e0 F3 (g := (mkF m 1 #[.val (.ref r)] [(.ref r)])) rfl rfl (hb hby d23_1)
  obtain ⟨fsZ, hrZ, hrun, hended, hW, hsame⟩ := X1.leave (v := some (.int 2)) (fun h => by rw [Bd.returns] at h; cases h)
  refine ⟨_, _, pre0 _ ?_, hrun, hended, _, _, rfl, ?_, ⟨_, rfl⟩, hW, hsame.mono (by decide) (by decide)⟩
  · show Steps _ _ _ (s₁.setTop (mkF m 0 #[.val (.ref r)] [])) _
    refine XS.aloadN X0.here hx rfl (hb hby d23_0) rfl rfl ?_
    show Steps _ _ _ (s₁.setTop (mkF m 1 #[.val (.ref r)] [(.ref r)])) _
    refine st1 _ ?_
    show Steps _ _ _ (T1.setTop (mkF m 4 #[.val (.ref r)] [(.int 2)])) _
    exact retI X1 hx Bd.returns (hb hby d23_4) hrZ
  · show Q23 Z r h0 n0 _ T1.heap _
    rw [e1]
    exact ⟨rfl, N0, rfl⟩
theorem d22_0 : decode prog_48_method_6_code 0 = .ok (.aload_n 0, 1) := by decide +kernel
theorem d22_1 : decode prog_48_method_6_code 1 = .ok (.getfield 19, 3) := by decide +kernel
theorem d22_4 : decode prog_48_method_6_code 4 = .ok (.ifCond .le 23, 3) := by decide +kernel
theorem d22_7 : decode prog_48_method_6_code 7 = .ok (.aload_n 0, 1) := by decide +kernel
theorem d22_8 : decode prog_48_method_6_code 8 = .ok (.getfield 15, 3) := by decide +kernel
theorem d22_11 : decode prog_48_method_6_code 11 = .ok (.aload_n 0, 1) := by decide +kernel
theorem d22_12 : decode prog_48_method_6_code 12 = .ok (.getfield 19, 3) := by decide +kernel
theorem d22_15 : decode prog_48_method_6_code 15 = .ok (.iconst 1, 1) := by decide +kernel
theorem d22_16 : decode prog_48_method_6_code 16 = .ok (.isub, 1) := by decide +kernel
theorem d22_17 : decode prog_48_method_6_code 17 = .ok (.iaload, 1) := by decide +kernel
theorem d22_18 : decode prog_48_method_6_code 18 = .ok (.bipush (-2), 2) := by decide +kernel
theorem d22_20 : decode prog_48_method_6_code 20 = .ok (.if_icmp .eq 7, 3) := by decide +kernel
theorem d22_23 : decode prog_48_method_6_code 23 = .ok (.iconst 1, 1) := by decide +kernel
theorem d22_24 : decode prog_48_method_6_code 24 = .ok (.goto 4, 3) := by decide +kernel
theorem d22_28 : decode prog_48_method_6_code 28 = .ok (.ireturn, 1) := by decide +kernel
theorem ef22 (m : MethodId) (r : Addr) : entryFrame m #[(.ref r)] 1 = mkF m 0 #[.val (.ref r)] [] := by first | (simp [entryFrame, mkF, argsToLocals, Value.category]; done) | rfl
def Q22 (Z : State) (r : Addr) (ia : Addr) (ki : ClassId) (x0 : Int32) (x1 : Int32) (h0 : Heap) (n0 : Nat) (v : Option Value) (h : Heap) (L : List Loc) : Prop := v = some (.int 1) ∧ Fr n0 L ∧ h = h0
theorem rm22 (l : Launch) (Z : State) (a0 : Array Value) (hw : ∀ d ∈ tables_1, d.before a0 Z = true) (ws : List Jvm.Cond) (r : Addr) (ia : Addr) (ki : ClassId) (x0 : Int32) (x1 : Int32) (h0 : Heap) (n0 : Nat) (Z0 : n0 ≤ h0.size) (F0 : Fld Z h0 r oJ "indexes" "[I" (.ref ia)) (F1 : Fld Z h0 r oJ "depth" "I" (.int 2)) (F2 : Arv Z h0 ia ki .int (16 : Int32) [(.int x0), (.int x1)] (.int 0)) (h2 : ¬ (x1 = (-2 : Int32))) :
    MetFree l oM5 (head1 (Jvm.Cond.code oM5 prog_48_method_6_code 1 (some .boolean) :: ws) oR1) (fun a U => a = #[(.ref r)] ∧ Z.Warmed39 U.vm ∧ U.heap = h0) (fun _ _ _ _ _ => True) (fun _ U o U' => ∃ v L, o = .returned v ∧ Q22 Z r ia ki x0 x1 h0 n0 v U'.heap L ∧ FrameEnd U o U' L oR1.cells oR1.slots) := by
  refine MetFree.of_bodySF (plainFor_of_name pn0) hisR ?_
  intro p e s m args below meth c s₁ Bd hml0 hP hK
  obtain ⟨rfl, hZ, hh⟩ := hP
  have hx := Bd.exec
  have hby := Bd.bytes
  have hml : c.maxLocals = 1 := hml0
  have hown : s.vm.findClass oJ = some m.cls := findClass_of_methodNamed Bd.named
  have hnm := (name_of_methodNamed Bd.named Bd.method).1
  have X0 : Stand p l e oR1 s m #[(.ref r)] below meth c s₁ [] 0 0 := Stand.of_body Bd
  have e0 : s₁.heap = h0 := by rw [← hh, Bd.state]; rfl
  have N0 := Fr.nil n0
  have pre0 : ∀ tZ, Steps p.tables e below (s₁.setTop (mkF m 0 #[.val (.ref r)] [])) tZ → Steps p.tables e below (s₁.setTop (entryFrame m #[(.ref r)] 1)) tZ := fun tZ kZ => castTop (ef22 m r) kZ
  obtain ⟨T1, X1, e1, st1⟩ := getF X0 hx hZ hown (host := "") (Or.inl (ow hw 34 rfl)) Via.refl e0 F1 (g := (mkF m 1 #[.val (.ref r)] [(.ref r)])) rfl rfl (hb hby d22_1)
  obtain ⟨T2, X2, e2, st2⟩ := getF X1 hx hZ hown (host := "") (Or.inl (ow hw 23 rfl)) Via.refl e1 F0 (g := (mkF m 8 #[.val (.ref r)] [(.ref r)])) rfl rfl (hb hby d22_8)
  obtain ⟨T3, X3, e3, st3⟩ := getF X2 hx hZ hown (host := "") (Or.inl (ow hw 34 rfl)) Via.refl e2 F1 (g := (mkF m 12 #[.val (.ref r)] [(.ref r), (.ref ia)])) rfl rfl (hb hby d22_12)
  obtain ⟨c4, Arc4, qc4, Sc4, Mc4, Hc4, Gc4⟩ := id F2
  have hinc4 : ¬ ((1 : Int32) < 0 ∨ c4.slots.size ≤ ((1 : Int32)).toNatClampNeg) := inb_of Sc4 ⟨by decide, by decide⟩
  have hatc4 : c4.slots[((1 : Int32)).toNatClampNeg]? = some (.int x1) := Hc4.at hinc4 rfl
  obtain ⟨fsZ, hrZ, hrun, hended, hW, hsame⟩ := X3.leave (v := some (.int 1)) (fun h => by rw [Bd.returns] at h; cases h)
  refine ⟨_, _, pre0 _ ?_, hrun, hended, _, _, rfl, ?_, ⟨_, rfl⟩, hW, hsame.mono (by decide) (by decide)⟩
  · show Steps _ _ _ (s₁.setTop (mkF m 0 #[.val (.ref r)] [])) _
    refine XS.aloadN X0.here hx rfl (hb hby d22_0) rfl rfl ?_
    show Steps _ _ _ (s₁.setTop (mkF m 1 #[.val (.ref r)] [(.ref r)])) _
    refine st1 _ ?_
    refine XS.ifNo X1.here hx rfl (hb hby d22_4) rfl ((if0 _ _).trans (tlt (by decide)).2.2.2) ?_
    refine XS.aloadN X1.here hx rfl (hb hby d22_7) rfl rfl ?_
    show Steps _ _ _ (T1.setTop (mkF m 8 #[.val (.ref r)] [(.ref r)])) _
    refine st2 _ ?_
    refine XS.aloadN X2.here hx rfl (hb hby d22_11) rfl rfl ?_
    show Steps _ _ _ (T2.setTop (mkF m 12 #[.val (.ref r)] [(.ref r), (.ref ia)])) _
    refine st3 _ ?_
    refine XS.iconst X3.here hx rfl (hb hby d22_15) ?_
    refine XS.isub X3.here hx rfl (hb hby d22_16) rfl ?_
    show Steps _ _ _ (T3.setTop (mkF m 17 #[.val (.ref r)] [(.int ((2 : Int32) - (1 : Int32))), (.ref ia)])) _
    rw [show ((2 : Int32) - (1 : Int32)) = (1 : Int32) from by decide]
    show Steps _ _ _ (T3.setTop (mkF m 17 #[.val (.ref r)] [(.int 1), (.ref ia)])) _
    refine X3.iaload hx (j := (1 : Int32)) (v := (.int x1)) (by rw [e3]; exact Arc4.1) (State.isArrayOf_alike hZ.alike Arc4.2.1) Arc4.2.2 hinc4 hatc4 (g := (mkF m 17 #[.val (.ref r)] [(.int 1), (.ref ia)])) rfl rfl (hb hby d22_17) _ ?_
    refine XS.bipush X3.here hx rfl (hb hby d22_18) ?_
    refine XS.icmpNo X3.here hx rfl (hb hby d22_20) rfl (feq h2).1 ?_
    refine XS.iconst X3.here hx rfl (hb hby d22_23) ?_
    refine XS.goto X3.here hx rfl (pc0 := 24) (pc' := 28) rfl (hb hby d22_24) (by decide) (by decide) ?_
    show Steps _ _ _ (T3.setTop (mkF m 28 #[.val (.ref r)] [(.int 1)])) _
    exact retN X3 hx (t := .boolean) Bd.returns (by simp) (hb hby d22_28) hrZ
  · show Q22 Z r ia ki x0 x1 h0 n0 _ T3.heap _
    rw [e3]
    exact ⟨rfl, N0, rfl⟩
theorem d21_0 : decode prog_48_method_7_code 0 = .ok (.aload_n 0, 1) := by decide +kernel
theorem d21_1 : decode prog_48_method_7_code 1 = .ok (.invokevirtual 27, 3) := by decide +kernel
theorem pd2 : parseMethodDescriptor "()Z" = some ⟨[], some .boolean⟩ := by decide +kernel
theorem d21_4 : decode prog_48_method_7_code 4 = .ok (.ifCond .eq 26, 3) := by decide +kernel
theorem d21_7 : decode prog_48_method_7_code 7 = .ok (.aload_n 0, 1) := by decide +kernel
theorem d21_8 : decode prog_48_method_7_code 8 = .ok (.getfield 15, 3) := by decide +kernel
theorem d21_11 : decode prog_48_method_7_code 11 = .ok (.aload_n 0, 1) := by decide +kernel
theorem d21_12 : decode prog_48_method_7_code 12 = .ok (.getfield 19, 3) := by decide +kernel
theorem d21_15 : decode prog_48_method_7_code 15 = .ok (.iconst 1, 1) := by decide +kernel
theorem d21_16 : decode prog_48_method_7_code 16 = .ok (.isub, 1) := by decide +kernel
theorem d21_17 : decode prog_48_method_7_code 17 = .ok (.iaload, 1) := by decide +kernel
theorem d21_18 : decode prog_48_method_7_code 18 = .ok (.iconst (-1), 1) := by decide +kernel
theorem d21_19 : decode prog_48_method_7_code 19 = .ok (.if_icmp .ne 7, 3) := by decide +kernel
theorem d21_22 : decode prog_48_method_7_code 22 = .ok (.iconst 1, 1) := by decide +kernel
theorem d21_23 : decode prog_48_method_7_code 23 = .ok (.goto 26, 3) := by decide +kernel
theorem d21_49 : decode prog_48_method_7_code 49 = .ok (.ireturn, 1) := by decide +kernel
theorem ef21m (m : MethodId) (r : Addr) : entryFrame m #[(.ref r)] 1 = mkF m 0 #[.val (.ref r)] [] := by first | (simp [entryFrame, mkF, argsToLocals, Value.category]; done) | rfl
def Q21m (Z : State) (r : Addr) (ia : Addr) (ki : ClassId) (x0 : Int32) (x1 : Int32) (h0 : Heap) (n0 : Nat) (v : Option Value) (h : Heap) (L : List Loc) : Prop := v = some (.int 1) ∧ Fr n0 L ∧ h = h0
theorem rm21m (l : Launch) (Z : State) (a0 : Array Value) (hw : ∀ d ∈ tables_1, d.before a0 Z = true) (ws : List Jvm.Cond) (r : Addr) (ia : Addr) (ki : ClassId) (x0 : Int32) (x1 : Int32) (h0 : Heap) (n0 : Nat) (Z0 : n0 ≤ h0.size) (Ex1 : Exa Z h0 r oJ) (F0 : Fld Z h0 r oJ "indexes" "[I" (.ref ia)) (F1 : Fld Z h0 r oJ "depth" "I" (.int 2)) (F2 : Arv Z h0 ia ki .int (16 : Int32) [(.int x0), (.int x1)] (.int 0)) (h2 : ¬ (x1 = (-2 : Int32))) (h1 : x1 = (-1 : Int32)) :
    MetFree l oM6 (head1 (Jvm.Cond.code oM6 prog_48_method_7_code 1 (some .boolean) :: ws) oR3) (fun a U => a = #[(.ref r)] ∧ Z.Warmed39 U.vm ∧ U.heap = h0) (fun _ _ _ _ _ => True) (fun _ U o U' => ∃ v L, o = .returned v ∧ Q21m Z r ia ki x0 x1 h0 n0 v U'.heap L ∧ FrameEnd U o U' L oR3.cells oR3.slots) := by
  refine MetFree.of_bodySF (plainFor_of_name pn0) hisR ?_
  intro p e s m args below meth c s₁ Bd hml0 hP hK
  obtain ⟨rfl, hZ, hh⟩ := hP
  have hx := Bd.exec
  have hby := Bd.bytes
  have hml : c.maxLocals = 1 := hml0
  have hown : s.vm.findClass oJ = some m.cls := findClass_of_methodNamed Bd.named
  have hnm := (name_of_methodNamed Bd.named Bd.method).1
  have X0 : Stand p l e oR3 s m #[(.ref r)] below meth c s₁ [] 0 0 := Stand.of_body Bd
  have e0 : s₁.heap = h0 := by rw [← hh, Bd.state]; rfl
  have N0 := Fr.nil n0
  have pre0 : ∀ tZ, Steps p.tables e below (s₁.setTop (mkF m 0 #[.val (.ref r)] [])) tZ → Steps p.tables e below (s₁.setTop (entryFrame m #[(.ref r)] 1)) tZ := fun tZ kZ => castTop (ef21m m r) kZ
  obtain ⟨cq1, kq1, q1a, q1b, q1c⟩ := isOf hZ e0 Ex1
  obtain ⟨_, _, ⟨T1, L1, k1, n1⟩, -, X1, ⟨Lc1, hQ1, l1, y1, z1⟩, st1⟩ := X0.virtualBack hx (y := oM5) (z := oM5) hown (mvT hZ (ow hw 130 rfl)) (mvT hZ (ow hw 131 rfl)) (notFace_of_selects (args := #[]) (mvT hZ (ow hw 133 rfl))) (mvT hZ (ow hw 133 rfl)) (mvT hZ (ow hw 132 rfl)) (by decide) (backOf (W := 0) (rm22 l Z a0 hw [] r ia ki x0 x1 h0 n0 Z0 F0 F1 F2 (by first | assumption | decide | omega)) hZ (ow hw 134 rfl) (ow hw 11 rfl) (by decide) (by decide)) q1a q1c (g := (mkF m 1 #[.val (.ref r)] [(.ref r)])) rfl (by rw [hml]; rfl) (Steps.refl _) (argsL := []) (rest := []) (lenOf pd2 rfl) rfl (Nat.le_of_eq rfl) (hb hby d21_1) (fun _ _ => ⟨rfl, e0, (by decide : 0 + 0 ≤ _), (by decide : 0 + 0 ≤ _)⟩)
  dsimp only [Pt.U, Pt.locs, Pt.cells, Pt.slots] at X1 l1 y1 z1 st1 hQ1
  subst l1 y1 z1
  obtain ⟨rfl, N1q, e1⟩ := hQ1
  have N1 := Fr.app N0 N1q
  obtain ⟨T2, X2, e2, st2⟩ := getF X1 hx hZ hown (host := "") (Or.inl (ow hw 23 rfl)) Via.refl e1 F0 (g := (mkF m 8 #[.val (.ref r)] [(.ref r)])) rfl rfl (hb hby d21_8)
  obtain ⟨T3, X3, e3, st3⟩ := getF X2 hx hZ hown (host := "") (Or.inl (ow hw 34 rfl)) Via.refl e2 F1 (g := (mkF m 12 #[.val (.ref r)] [(.ref r), (.ref ia)])) rfl rfl (hb hby d21_12)
  obtain ⟨c4, Arc4, qc4, Sc4, Mc4, Hc4, Gc4⟩ := id F2
  have hinc4 : ¬ ((1 : Int32) < 0 ∨ c4.slots.size ≤ ((1 : Int32)).toNatClampNeg) := inb_of Sc4 ⟨by decide, by decide⟩
  have hatc4 : c4.slots[((1 : Int32)).toNatClampNeg]? = some (.int x1) := Hc4.at hinc4 rfl
  obtain ⟨fsZ, hrZ, hrun, hended, hW, hsame⟩ := X3.leave (v := some (.int 1)) (fun h => by rw [Bd.returns] at h; cases h)
  refine ⟨_, _, pre0 _ ?_, hrun, hended, _, _, rfl, ?_, ⟨_, rfl⟩, hW, hsame.mono (by decide) (by decide)⟩
  · show Steps _ _ _ (s₁.setTop (mkF m 0 #[.val (.ref r)] [])) _
    refine XS.aloadN X0.here hx rfl (hb hby d21_0) rfl rfl ?_
    show Steps _ _ _ (s₁.setTop (mkF m 1 #[.val (.ref r)] [(.ref r)])) _
    refine st1.trans ?_
    refine XS.ifNo X1.here hx rfl (hb hby d21_4) rfl ((if0 _ _).trans (feq (by decide)).1) ?_
    refine XS.aloadN X1.here hx rfl (hb hby d21_7) rfl rfl ?_
    show Steps _ _ _ (T1.setTop (mkF m 8 #[.val (.ref r)] [(.ref r)])) _
    refine st2 _ ?_
    refine XS.aloadN X2.here hx rfl (hb hby d21_11) rfl rfl ?_
    show Steps _ _ _ (T2.setTop (mkF m 12 #[.val (.ref r)] [(.ref r), (.ref ia)])) _
    refine st3 _ ?_
    refine XS.iconst X3.here hx rfl (hb hby d21_15) ?_
    refine XS.isub X3.here hx rfl (hb hby d21_16) rfl ?_
    show Steps _ _ _ (T3.setTop (mkF m 17 #[.val (.ref r)] [(.int ((2 : Int32) - (1 : Int32))), (.ref ia)])) _
    rw [show ((2 : Int32) - (1 : Int32)) = (1 : Int32) from by decide]
    show Steps _ _ _ (T3.setTop (mkF m 17 #[.val (.ref r)] [(.int 1), (.ref ia)])) _
    refine X3.iaload hx (j := (1 : Int32)) (v := (.int x1)) (by rw [e3]; exact Arc4.1) (State.isArrayOf_alike hZ.alike Arc4.2.1) Arc4.2.2 hinc4 hatc4 (g := (mkF m 17 #[.val (.ref r)] [(.int 1), (.ref ia)])) rfl rfl (hb hby d21_17) _ ?_
    refine XS.iconst X3.here hx rfl (hb hby d21_18) ?_
    refine XS.icmpNo X3.here hx rfl (hb hby d21_19) rfl (teq h1).2 ?_
    refine XS.iconst X3.here hx rfl (hb hby d21_22) ?_
    refine XS.goto X3.here hx rfl (pc0 := 23) (pc' := 49) rfl (hb hby d21_23) (by decide) (by decide) ?_
    show Steps _ _ _ (T3.setTop (mkF m 49 #[.val (.ref r)] [(.int 1)])) _
    exact retN X3 hx (t := .boolean) Bd.returns (by simp) (hb hby d21_49) hrZ
  · show Q21m Z r ia ki x0 x1 h0 n0 _ T3.heap _
    rw [e3]
    exact ⟨rfl, N1, rfl⟩
theorem d21_26 : decode prog_48_method_7_code 26 = .ok (.iconst 0, 1) := by decide +kernel
theorem d21_27 : decode prog_48_method_7_code 27 = .ok (.goto 22, 3) := by decide +kernel
theorem ef21 (m : MethodId) (r : Addr) : entryFrame m #[(.ref r)] 1 = mkF m 0 #[.val (.ref r)] [] := by first | (simp [entryFrame, mkF, argsToLocals, Value.category]; done) | rfl
def Q21 (Z : State) (r : Addr) (ia : Addr) (ki : ClassId) (x0 : Int32) (x1 : Int32) (h0 : Heap) (n0 : Nat) (v : Option Value) (h : Heap) (L : List Loc) : Prop := v = some (.int 0) ∧ Fr n0 L ∧ h = h0
theorem rm21 (l : Launch) (Z : State) (a0 : Array Value) (hw : ∀ d ∈ tables_1, d.before a0 Z = true) (ws : List Jvm.Cond) (r : Addr) (ia : Addr) (ki : ClassId) (x0 : Int32) (x1 : Int32) (h0 : Heap) (n0 : Nat) (Z0 : n0 ≤ h0.size) (Ex1 : Exa Z h0 r oJ) (F0 : Fld Z h0 r oJ "indexes" "[I" (.ref ia)) (F1 : Fld Z h0 r oJ "depth" "I" (.int 2)) (F2 : Arv Z h0 ia ki .int (16 : Int32) [(.int x0), (.int x1)] (.int 0)) (h2 : ¬ (x1 = (-2 : Int32))) (h1 : ¬ (x1 = (-1 : Int32))) :
    MetFree l oM6 (head1 (Jvm.Cond.code oM6 prog_48_method_7_code 1 (some .boolean) :: ws) oR3) (fun a U => a = #[(.ref r)] ∧ Z.Warmed39 U.vm ∧ U.heap = h0) (fun _ _ _ _ _ => True) (fun _ U o U' => ∃ v L, o = .returned v ∧ Q21 Z r ia ki x0 x1 h0 n0 v U'.heap L ∧ FrameEnd U o U' L oR3.cells oR3.slots) := by
  refine MetFree.of_bodySF (plainFor_of_name pn0) hisR ?_
  intro p e s m args below meth c s₁ Bd hml0 hP hK
  obtain ⟨rfl, hZ, hh⟩ := hP
  have hx := Bd.exec
  have hby := Bd.bytes
  have hml : c.maxLocals = 1 := hml0
  have hown : s.vm.findClass oJ = some m.cls := findClass_of_methodNamed Bd.named
  have hnm := (name_of_methodNamed Bd.named Bd.method).1
  have X0 : Stand p l e oR3 s m #[(.ref r)] below meth c s₁ [] 0 0 := Stand.of_body Bd
  have e0 : s₁.heap = h0 := by rw [← hh, Bd.state]; rfl
  have N0 := Fr.nil n0
  have pre0 : ∀ tZ, Steps p.tables e below (s₁.setTop (mkF m 0 #[.val (.ref r)] [])) tZ → Steps p.tables e below (s₁.setTop (entryFrame m #[(.ref r)] 1)) tZ := fun tZ kZ => castTop (ef21 m r) kZ
  obtain ⟨cq1, kq1, q1a, q1b, q1c⟩ := isOf hZ e0 Ex1
  obtain ⟨_, _, ⟨T1, L1, k1, n1⟩, -, X1, ⟨Lc1, hQ1, l1, y1, z1⟩, st1⟩ := X0.virtualBack hx (y := oM5) (z := oM5) hown (mvT hZ (ow hw 130 rfl)) (mvT hZ (ow hw 131 rfl)) (notFace_of_selects (args := #[]) (mvT hZ (ow hw 133 rfl))) (mvT hZ (ow hw 133 rfl)) (mvT hZ (ow hw 132 rfl)) (by decide) (backOf (W := 0) (rm22 l Z a0 hw [] r ia ki x0 x1 h0 n0 Z0 F0 F1 F2 (by first | assumption | decide | omega)) hZ (ow hw 134 rfl) (ow hw 11 rfl) (by decide) (by decide)) q1a q1c (g := (mkF m 1 #[.val (.ref r)] [(.ref r)])) rfl (by rw [hml]; rfl) (Steps.refl _) (argsL := []) (rest := []) (lenOf pd2 rfl) rfl (Nat.le_of_eq rfl) (hb hby d21_1) (fun _ _ => ⟨rfl, e0, (by decide : 0 + 0 ≤ _), (by decide : 0 + 0 ≤ _)⟩)
  dsimp only [Pt.U, Pt.locs, Pt.cells, Pt.slots] at X1 l1 y1 z1 st1 hQ1
  subst l1 y1 z1
  obtain ⟨rfl, N1q, e1⟩ := hQ1
  have N1 := Fr.app N0 N1q
  obtain ⟨T2, X2, e2, st2⟩ := getF X1 hx hZ hown (host := "") (Or.inl (ow hw 23 rfl)) Via.refl e1 F0 (g := (mkF m 8 #[.val (.ref r)] [(.ref r)])) rfl rfl (hb hby d21_8)
  obtain ⟨T3, X3, e3, st3⟩ := getF X2 hx hZ hown (host := "") (Or.inl (ow hw 34 rfl)) Via.refl e2 F1 (g := (mkF m 12 #[.val (.ref r)] [(.ref r), (.ref ia)])) rfl rfl (hb hby d21_12)
  obtain ⟨c4, Arc4, qc4, Sc4, Mc4, Hc4, Gc4⟩ := id F2
  have hinc4 : ¬ ((1 : Int32) < 0 ∨ c4.slots.size ≤ ((1 : Int32)).toNatClampNeg) := inb_of Sc4 ⟨by decide, by decide⟩
  have hatc4 : c4.slots[((1 : Int32)).toNatClampNeg]? = some (.int x1) := Hc4.at hinc4 rfl
  obtain ⟨fsZ, hrZ, hrun, hended, hW, hsame⟩ := X3.leave (v := some (.int 0)) (fun h => by rw [Bd.returns] at h; cases h)
  refine ⟨_, _, pre0 _ ?_, hrun, hended, _, _, rfl, ?_, ⟨_, rfl⟩, hW, hsame.mono (by decide) (by decide)⟩
  · show Steps _ _ _ (s₁.setTop (mkF m 0 #[.val (.ref r)] [])) _
    refine XS.aloadN X0.here hx rfl (hb hby d21_0) rfl rfl ?_
    show Steps _ _ _ (s₁.setTop (mkF m 1 #[.val (.ref r)] [(.ref r)])) _
    refine st1.trans ?_
    refine XS.ifNo X1.here hx rfl (hb hby d21_4) rfl ((if0 _ _).trans (feq (by decide)).1) ?_
    refine XS.aloadN X1.here hx rfl (hb hby d21_7) rfl rfl ?_
    show Steps _ _ _ (T1.setTop (mkF m 8 #[.val (.ref r)] [(.ref r)])) _
    refine st2 _ ?_
    refine XS.aloadN X2.here hx rfl (hb hby d21_11) rfl rfl ?_
    show Steps _ _ _ (T2.setTop (mkF m 12 #[.val (.ref r)] [(.ref r), (.ref ia)])) _
    refine st3 _ ?_
    refine XS.iconst X3.here hx rfl (hb hby d21_15) ?_
    refine XS.isub X3.here hx rfl (hb hby d21_16) rfl ?_
    show Steps _ _ _ (T3.setTop (mkF m 17 #[.val (.ref r)] [(.int ((2 : Int32) - (1 : Int32))), (.ref ia)])) _
    rw [show ((2 : Int32) - (1 : Int32)) = (1 : Int32) from by decide]
    show Steps _ _ _ (T3.setTop (mkF m 17 #[.val (.ref r)] [(.int 1), (.ref ia)])) _
    refine X3.iaload hx (j := (1 : Int32)) (v := (.int x1)) (by rw [e3]; exact Arc4.1) (State.isArrayOf_alike hZ.alike Arc4.2.1) Arc4.2.2 hinc4 hatc4 (g := (mkF m 17 #[.val (.ref r)] [(.int 1), (.ref ia)])) rfl rfl (hb hby d21_17) _ ?_
    refine XS.iconst X3.here hx rfl (hb hby d21_18) ?_
    refine XS.icmpYes X3.here hx rfl (pc0 := 19) (pc' := 26) rfl (hb hby d21_19) rfl (feq h1).2 (by decide) (by decide) ?_
    refine XS.iconst X3.here hx rfl (hb hby d21_26) ?_
    refine XS.goto X3.here hx rfl (pc0 := 27) (pc' := 49) rfl (hb hby d21_27) (by decide) (by decide) ?_
    show Steps _ _ _ (T3.setTop (mkF m 49 #[.val (.ref r)] [(.int 0)])) _
    exact retN X3 hx (t := .boolean) Bd.returns (by simp) (hb hby d21_49) hrZ
  · show Q21 Z r ia ki x0 x1 h0 n0 _ T3.heap _
    rw [e3]
    exact ⟨rfl, N1, rfl⟩
theorem pn3 : plainName "java/lang/AbstractStringBuilder" = true := by first | (simp [plainName, overriddenIn]; done) | decide +kernel
theorem d7_0 : decode jdk_68_method_2_code 0 = .ok (.aload_n 0, 1) := by decide +kernel
theorem d7_1 : decode jdk_68_method_2_code 1 = .ok (.invokespecial 3, 3) := by decide +kernel
theorem d7_4 : decode jdk_68_method_2_code 4 = .ok (.getstatic 18, 3) := by decide +kernel
theorem d7_7 : decode jdk_68_method_2_code 7 = .ok (.ifCond .eq 18, 3) := by decide +kernel
theorem d7_10 : decode jdk_68_method_2_code 10 = .ok (.aload_n 0, 1) := by decide +kernel
theorem d7_11 : decode jdk_68_method_2_code 11 = .ok (.iload_n 1, 1) := by decide +kernel
theorem d7_12 : decode jdk_68_method_2_code 12 = .ok (.newarray .byte, 2) := by decide +kernel
theorem d7_14 : decode jdk_68_method_2_code 14 = .ok (.putfield 15, 3) := by decide +kernel
theorem d7_17 : decode jdk_68_method_2_code 17 = .ok (.aload_n 0, 1) := by decide +kernel
theorem d7_18 : decode jdk_68_method_2_code 18 = .ok (.iconst 0, 1) := by decide +kernel
theorem d7_19 : decode jdk_68_method_2_code 19 = .ok (.putfield 22, 3) := by decide +kernel
theorem d7_22 : decode jdk_68_method_2_code 22 = .ok (.goto 16, 3) := by decide +kernel
theorem d7_38 : decode jdk_68_method_2_code 38 = .ok (.return_, 1) := by decide +kernel
theorem ef7 (m : MethodId) (b : Addr) : entryFrame m #[(.ref b), (.int 16)] 2 = mkF m 0 #[.val (.ref b), .val (.int 16)] [] := by first | (simp [entryFrame, mkF, argsToLocals, Value.category]; done) | rfl
def Q7 (Z : State) (b : Addr) (u1 : Value) (u2 : Value) (cs : Int32) (h0 : Heap) (n0 : Nat) (v : Option Value) (h : Heap) (L : List Loc) : Prop := ∃ (va : Addr) (kv : ClassId), v = none ∧ Fr n0 L ∧ Keep h0 h [b] ∧ n0 ≤ va ∧ h0.size ≤ va ∧ Exa Z h b oB ∧ Fld Z h b oA "value" "[B" (.ref va) ∧ Fld Z h b oA "coder" "B" (.int 0) ∧ Fld Z h b oA "count" "I" (.int 0) ∧ Arv Z h va kv .byte (16 : Int32) [(.int 0), (.int 0), (.int 0), (.int 0)] (.int 0)
theorem rm7 (l : Launch) (Z : State) (a0 : Array Value) (hw : ∀ d ∈ tables_1, d.before a0 Z = true) (ws : List Jvm.Cond) (b : Addr) (u1 : Value) (u2 : Value) (cs : Int32) (h0 : Heap) (n0 : Nat) (Z0 : n0 ≤ h0.size) (Ex1 : Exa Z h0 b oB) (F1 : Fld Z h0 b oA "value" "[B" u1) (F2 : Fld Z h0 b oA "coder" "B" u2) (F3 : Fld Z h0 b oA "count" "I" (.int 0)) (gx1 : n0 ≤ b) (Cs : Sta Z Z.heap oS "COMPACT_STRINGS" "Z" (.int cs)) (hcs : ¬ (cs = (0 : Int32))) (Ox : Old Z n0 h0) :
    MetFree l oM7 (head1 (Jvm.Cond.code oM7 jdk_68_method_2_code 2 none :: ws) oR4) (fun a U => a = #[(.ref b), (.int 16)] ∧ Z.Warmed39 U.vm ∧ U.heap = h0) (fun _ _ _ _ _ => True) (fun _ U o U' => ∃ v L, o = .returned v ∧ Q7 Z b u1 u2 cs h0 n0 v U'.heap L ∧ FrameEnd U o U' L oR4.cells oR4.slots) := by
  refine MetFree.of_bodySF (plainFor_of_name pn3) hisR ?_
  intro p e s m args below meth c s₁ Bd hml0 hP hK
  obtain ⟨rfl, hZ, hh⟩ := hP
  have hx := Bd.exec
  have hby := Bd.bytes
  have hml : c.maxLocals = 2 := hml0
  have hown : s.vm.findClass oA = some m.cls := findClass_of_methodNamed Bd.named
  have hnm := (name_of_methodNamed Bd.named Bd.method).1
  have X0 : Stand p l e oR4 s m #[(.ref b), (.int 16)] below meth c s₁ [] 0 0 := Stand.of_body Bd
  have e0 : s₁.heap = h0 := by rw [← hh, Bd.state]; rfl
  have N0 := Fr.nil n0
  have pre0 : ∀ tZ, Steps p.tables e below (s₁.setTop (mkF m 0 #[.val (.ref b), .val (.int 16)] [])) tZ → Steps p.tables e below (s₁.setTop (entryFrame m #[(.ref b), (.int 16)] 2)) tZ := fun tZ kZ => castTop (ef7 m b) kZ
  obtain ⟨T1, X1, e1, st1⟩ := initO X0 hx hZ hown (ow hw 53 rfl) (ow hw 16 rfl) (ow hw 17 rfl) e0 (g := (mkF m 1 #[.val (.ref b), .val (.int 16)] [(.ref b)])) rfl (by rw [hml]; rfl) rfl (hb hby d7_1) (by decide) (W := 0) (Nat.le_of_eq rfl) (by decide)
  obtain ⟨T2, X2, e2, st2⟩ := getS2 X1 hx hZ hown (host := "") (Or.inl (ow hw 54 rfl)) Via.refl e1 (Cs.ext Ox.2) (g := (mkF m 4 #[.val (.ref b), .val (.int 16)] [])) rfl (hb hby d7_4)
  obtain ⟨T3, h3, k3, X3, e3, E3, A3, st3⟩ := newP X2 hx hZ (ow hw 4 rfl) e2 (g := (mkF m 12 #[.val (.ref b), .val (.int 16)] [(.int 16), (.ref b)])) rfl (hb hby d7_12) rfl (by decide) (cap := 16) (by decide) (by decide) (by decide) (by decide)
  obtain ⟨b3, g3⟩ : ∃ z, z = h0.size := ⟨_, rfl⟩
  rw [← g3] at A3 st3
  have ne4 : b ≠ b3 := Nat.ne_of_lt (Nat.lt_of_lt_of_le Ex1.lt (Nat.le_of_eq g3.symm))
  have gn_b3 : n0 ≤ b3 := Nat.le_trans Z0 (Nat.le_of_eq g3.symm)
  have sz_b3 : h0.size ≤ b3 := Nat.le_trans (Keep.refl h0 [b]).1 (Nat.le_of_eq g3.symm)
  have Z5 : n0 ≤ h3.size := Nat.le_trans Z0 E3.1
  have K6 : Keep h0 h3 [b] := (Keep.refl h0 [b]).ext E3
  have V3 : Arv Z h3 b3 k3 .byte (16 : Int32) [(.int 0), (.int 0), (.int 0), (.int 0)] (.int 0) := (Arv.new A3 (by decide)).pad (pad_rep [] (.int 0) 4)
  have fa7 := (F1.ext E3)
  have fa8 := (Ex1.ext E3)
  obtain ⟨T9, h9, X9, e9, W9, st9⟩ := putF X3 hx hZ hown (host := "") (Or.inl (ow hw 55 rfl)) Via.refl e3 fa7 fa8 (Or.inl (ow hw 56 rfl)) (ow hw 42 rfl) (ty := (.array .byte)) (by decide) rfl rfl (g := (mkF m 14 #[.val (.ref b), .val (.int 16)] [(.ref b3), (.ref b)])) rfl rfl (hb hby d7_14)
  have fw9 : Fld Z h9 b oA "value" "[B" (.ref b3) := fa7.same W9
  have Z10 : n0 ≤ h9.size := Nat.le_trans Z5 (Nat.le_of_eq W9.size.symm)
  have K11 : Keep h0 h9 [b] := K6.wr W9 (Or.inl (List.mem_of_getElem? (i := 0) rfl))
  have N9 := Fr.snoc X9 N0 gx1
  have fa12 := ((F2.ext E3).other W9 (Or.inr (slot_ne (Or.inl (ow hw 58 rfl)) (Or.inl (ow hw 56 rfl)) (by decide) (t := .byte) (t' := (.array .byte)) (by decide) (by decide))))
  have fa13 := (fa8.wr W9)
  obtain ⟨T14, h14, X14, e14, W14, st14⟩ := putFN X9 hx hZ hown (ow hw 57 rfl) Via.refl e9 fa12 fa13 (Or.inl (ow hw 58 rfl)) (ow hw 42 rfl) (ty := .byte) (v' := (.int 0)) (by decide) rfl (by decide) (g := (mkF m 19 #[.val (.ref b), .val (.int 16)] [(.int 0), (.ref b)])) rfl rfl (hb hby d7_19)
  have fw14 : Fld Z h14 b oA "coder" "B" (.int 0) := fa12.same W14
  have Z15 : n0 ≤ h14.size := Nat.le_trans Z10 (Nat.le_of_eq W14.size.symm)
  have K16 : Keep h0 h14 [b] := K11.wr W14 (Or.inl (List.mem_of_getElem? (i := 0) rfl))
  have N14 := Fr.snoc X14 N9 gx1
  obtain ⟨fsZ, hrZ, hrun, hended, hW, hsame⟩ := X14.leave (v := none) (fun _ => rfl)
  have fa17 := (fa13.wr W14)
  have fa18 := (fw9.other W14 (Or.inr (slot_ne (Or.inl (ow hw 56 rfl)) (Or.inl (ow hw 58 rfl)) (by decide) (t := (.array .byte)) (t' := .byte) (by decide) (by decide))))
  have fa19 := (((F3.ext E3).other W9 (Or.inr (slot_ne (Or.inl (ow hw 88 rfl)) (Or.inl (ow hw 56 rfl)) (by decide) (t := .int) (t' := (.array .byte)) (by decide) (by decide)))).other W14 (Or.inr (slot_ne (Or.inl (ow hw 88 rfl)) (Or.inl (ow hw 58 rfl)) (by decide) (t := .int) (t' := .byte) (by decide) (by decide))))
  have fa20 := ((V3.other W9 (Ne.symm ne4)).other W14 (Ne.symm ne4))
  refine ⟨_, _, pre0 _ ?_, hrun, hended, _, _, rfl, ?_, ⟨_, rfl⟩, hW, hsame.mono (by decide) (by decide)⟩
  · show Steps _ _ _ (s₁.setTop (mkF m 0 #[.val (.ref b), .val (.int 16)] [])) _
    refine XS.aloadN X0.here hx rfl (hb hby d7_0) rfl rfl ?_
    show Steps _ _ _ (s₁.setTop (mkF m 1 #[.val (.ref b), .val (.int 16)] [(.ref b)])) _
    refine st1 _ ?_
    show Steps _ _ _ (T1.setTop (mkF m 4 #[.val (.ref b), .val (.int 16)] [])) _
    refine st2 _ ?_
    refine XS.ifNo X2.here hx rfl (hb hby d7_7) rfl ((if0 _ _).trans (feq hcs).1) ?_
    refine XS.aloadN X2.here hx rfl (hb hby d7_10) rfl rfl ?_
    refine XS.iloadN X2.here hx rfl (hb hby d7_11) rfl  ?_
    show Steps _ _ _ (T2.setTop (mkF m 12 #[.val (.ref b), .val (.int 16)] [(.int 16), (.ref b)])) _
    refine st3 _ ?_
    show Steps _ _ _ (T3.setTop (mkF m 14 #[.val (.ref b), .val (.int 16)] [(.ref b3), (.ref b)])) _
    refine st9 _ ?_
    refine XS.aloadN X9.here hx rfl (hb hby d7_17) rfl rfl ?_
    refine XS.iconst X9.here hx rfl (hb hby d7_18) ?_
    show Steps _ _ _ (T9.setTop (mkF m 19 #[.val (.ref b), .val (.int 16)] [(.int 0), (.ref b)])) _
    refine st14 _ ?_
    refine XS.goto X14.here hx rfl (pc0 := 22) (pc' := 38) rfl (hb hby d7_22) (by decide) (by decide) ?_
    show Steps _ _ _ (T14.setTop (mkF m 38 #[.val (.ref b), .val (.int 16)] [])) _
    exact X14.returnOut hx Bd.returns (hb hby d7_38) hrZ
  · show Q7 Z b u1 u2 cs h0 n0 _ T14.heap _
    rw [e14]
    exact ⟨b3, k3, rfl, N14, K16, gn_b3, sz_b3, fa17, fa18, fw14, fa19, fa20⟩
theorem pn4 : plainName "java/lang/StringBuilder" = true := by first | (simp [plainName, overriddenIn]; done) | decide +kernel
theorem d6_0 : decode jdk_67_method_1_code 0 = .ok (.aload_n 0, 1) := by decide +kernel
theorem d6_1 : decode jdk_67_method_1_code 1 = .ok (.bipush 16, 2) := by decide +kernel
theorem d6_3 : decode jdk_67_method_1_code 3 = .ok (.invokespecial 1, 3) := by decide +kernel
theorem d6_6 : decode jdk_67_method_1_code 6 = .ok (.return_, 1) := by decide +kernel
theorem ef6 (m : MethodId) (b : Addr) : entryFrame m #[(.ref b)] 1 = mkF m 0 #[.val (.ref b)] [] := by first | (simp [entryFrame, mkF, argsToLocals, Value.category]; done) | rfl
def Q6 (Z : State) (b : Addr) (u1 : Value) (u2 : Value) (cs : Int32) (h0 : Heap) (n0 : Nat) (v : Option Value) (h : Heap) (L : List Loc) : Prop := ∃ (va : Addr) (kv : ClassId), v = none ∧ Fr n0 L ∧ Keep h0 h [b] ∧ n0 ≤ va ∧ h0.size ≤ va ∧ Exa Z h b oB ∧ Fld Z h b oA "value" "[B" (.ref va) ∧ Fld Z h b oA "coder" "B" (.int 0) ∧ Fld Z h b oA "count" "I" (.int 0) ∧ Arv Z h va kv .byte (16 : Int32) [(.int 0), (.int 0), (.int 0), (.int 0)] (.int 0)
theorem rm6 (l : Launch) (Z : State) (a0 : Array Value) (hw : ∀ d ∈ tables_1, d.before a0 Z = true) (ws : List Jvm.Cond) (b : Addr) (u1 : Value) (u2 : Value) (cs : Int32) (h0 : Heap) (n0 : Nat) (Z0 : n0 ≤ h0.size) (Ex1 : Exa Z h0 b oB) (F1 : Fld Z h0 b oA "value" "[B" u1) (F2 : Fld Z h0 b oA "coder" "B" u2) (F3 : Fld Z h0 b oA "count" "I" (.int 0)) (gx1 : n0 ≤ b) (Cs : Sta Z Z.heap oS "COMPACT_STRINGS" "Z" (.int cs)) (hcs : ¬ (cs = (0 : Int32))) (Ox : Old Z n0 h0) :
    MetFree l oM8 (head1 (Jvm.Cond.code oM8 jdk_67_method_1_code 1 none :: ws) oR5) (fun a U => a = #[(.ref b)] ∧ Z.Warmed39 U.vm ∧ U.heap = h0) (fun _ _ _ _ _ => True) (fun _ U o U' => ∃ v L, o = .returned v ∧ Q6 Z b u1 u2 cs h0 n0 v U'.heap L ∧ FrameEnd U o U' L oR5.cells oR5.slots) := by
  refine MetFree.of_bodySF (plainFor_of_name pn4) hisR ?_
  intro p e s m args below meth c s₁ Bd hml0 hP hK
  obtain ⟨rfl, hZ, hh⟩ := hP
  have hx := Bd.exec
  have hby := Bd.bytes
  have hml : c.maxLocals = 1 := hml0
  have hown : s.vm.findClass oB = some m.cls := findClass_of_methodNamed Bd.named
  have hnm := (name_of_methodNamed Bd.named Bd.method).1
  have X0 : Stand p l e oR5 s m #[(.ref b)] below meth c s₁ [] 0 0 := Stand.of_body Bd
  have e0 : s₁.heap = h0 := by rw [← hh, Bd.state]; rfl
  have N0 := Fr.nil n0
  have pre0 : ∀ tZ, Steps p.tables e below (s₁.setTop (mkF m 0 #[.val (.ref b)] [])) tZ → Steps p.tables e below (s₁.setTop (entryFrame m #[(.ref b)] 1)) tZ := fun tZ kZ => castTop (ef6 m b) kZ
  obtain ⟨_, _, ⟨T1, L1, k1, n1⟩, -, X1, ⟨Lc1, hQ1, l1, y1, z1⟩, st1⟩ := X0.specialBack hx (y := oM7) rfl hown (mvT hZ (ow hw 47 rfl)) (mvT hZ (ow hw 48 rfl)) (mvT hZ (ow hw 52 rfl)) (by decide) (backOf (W := 0) (rm7 l Z a0 hw [] b u1 u2 cs h0 n0 Z0 Ex1 F1 F2 F3 gx1 Cs (by first | assumption | decide | omega) Ox) hZ (ow hw 52 rfl) (ow hw 51 rfl) (by decide) (by decide)) (g := (mkF m 3 #[.val (.ref b)] [(.int 16), (.ref b)])) rfl (by rw [hml]; rfl) (Steps.refl _) (a := b) (argsL := [(.int 16)]) (rest := []) (lenOf pd1 rfl) rfl (Nat.le_of_eq rfl) (hb hby d6_3) (fun _ _ => ⟨rfl, e0, (by decide : 0 + 1 ≤ _), (by decide : 0 + 16 ≤ _)⟩)
  dsimp only [Pt.U, Pt.locs, Pt.cells, Pt.slots] at X1 l1 y1 z1 st1 hQ1
  subst l1 y1 z1
  obtain ⟨va_2, kv_3, rfl, N1q, K1, u1_0, u1_1, f1_0, f1_1, f1_2, f1_3, f1_4⟩ := hQ1
  have N1 := Fr.app N0 N1q
  have Z4 : n0 ≤ T1.heap.size := Nat.le_trans Z0 K1.1
  have K5 : Keep h0 T1.heap [b] := (Keep.refl h0 [b]).trans K1 (allS (P := fun x => x ∈ _ ∨ _) (Or.inl (List.mem_of_getElem? (i := 0) rfl)) all0)
  have ne6 : b ≠ va_2 := Nat.ne_of_lt (Nat.lt_of_lt_of_le Ex1.lt u1_1)
  have sz_va_2 : h0.size ≤ va_2 := Nat.le_trans (Keep.refl h0 [b]).1 u1_1
  obtain ⟨fsZ, hrZ, hrun, hended, hW, hsame⟩ := X1.leave (v := none) (fun _ => rfl)
  refine ⟨_, _, pre0 _ ?_, hrun, hended, _, _, rfl, ?_, ⟨_, rfl⟩, hW, hsame.mono (by decide) (by decide)⟩
  · show Steps _ _ _ (s₁.setTop (mkF m 0 #[.val (.ref b)] [])) _
    refine XS.aloadN X0.here hx rfl (hb hby d6_0) rfl rfl ?_
    refine XS.bipush X0.here hx rfl (hb hby d6_1) ?_
    show Steps _ _ _ (s₁.setTop (mkF m 3 #[.val (.ref b)] [(.int 16), (.ref b)])) _
    refine st1.trans ?_
    show Steps _ _ _ (T1.setTop (mkF m 6 #[.val (.ref b)] [])) _
    exact X1.returnOut hx Bd.returns (hb hby d6_6) hrZ
  · show Q6 Z b u1 u2 cs h0 n0 _ T1.heap _
    exact ⟨va_2, kv_3, rfl, N1, K5, u1_0, sz_va_2, f1_0, f1_1, f1_2, f1_3, f1_4⟩
theorem d14_0 : decode jdk_68_method_68_code 0 = .ok (.getstatic 18, 3) := by decide +kernel
theorem d14_3 : decode jdk_68_method_68_code 3 = .ok (.ifCond .eq 14, 3) := by decide +kernel
theorem d14_6 : decode jdk_68_method_68_code 6 = .ok (.aload_n 0, 1) := by decide +kernel
theorem d14_7 : decode jdk_68_method_68_code 7 = .ok (.getfield 22, 3) := by decide +kernel
theorem d14_10 : decode jdk_68_method_68_code 10 = .ok (.ifCond .ne 7, 3) := by decide +kernel
theorem d14_13 : decode jdk_68_method_68_code 13 = .ok (.iconst 1, 1) := by decide +kernel
theorem d14_14 : decode jdk_68_method_68_code 14 = .ok (.goto 4, 3) := by decide +kernel
theorem d14_18 : decode jdk_68_method_68_code 18 = .ok (.ireturn, 1) := by decide +kernel
theorem ef14 (m : MethodId) (b : Addr) : entryFrame m #[(.ref b)] 1 = mkF m 0 #[.val (.ref b)] [] := by first | (simp [entryFrame, mkF, argsToLocals, Value.category]; done) | rfl
def Q14 (Z : State) (b : Addr) (cs : Int32) (h0 : Heap) (n0 : Nat) (v : Option Value) (h : Heap) (L : List Loc) : Prop := v = some (.int 1) ∧ Fr n0 L ∧ h = h0
theorem rm14 (l : Launch) (Z : State) (a0 : Array Value) (hw : ∀ d ∈ tables_1, d.before a0 Z = true) (ws : List Jvm.Cond) (b : Addr) (cs : Int32) (h0 : Heap) (n0 : Nat) (Z0 : n0 ≤ h0.size) (F2 : Fld Z h0 b oA "coder" "B" (.int 0)) (Cs : Sta Z Z.heap oS "COMPACT_STRINGS" "Z" (.int cs)) (hcs : ¬ (cs = (0 : Int32))) (Ox : Old Z n0 h0) :
    MetFree l oM9 (head1 (Jvm.Cond.code oM9 jdk_68_method_68_code 1 (some .boolean) :: ws) oR1) (fun a U => a = #[(.ref b)] ∧ Z.Warmed39 U.vm ∧ U.heap = h0) (fun _ _ _ _ _ => True) (fun _ U o U' => ∃ v L, o = .returned v ∧ Q14 Z b cs h0 n0 v U'.heap L ∧ FrameEnd U o U' L oR1.cells oR1.slots) := by
  refine MetFree.of_bodySF (plainFor_of_name pn3) hisR ?_
  intro p e s m args below meth c s₁ Bd hml0 hP hK
  obtain ⟨rfl, hZ, hh⟩ := hP
  have hx := Bd.exec
  have hby := Bd.bytes
  have hml : c.maxLocals = 1 := hml0
  have hown : s.vm.findClass oA = some m.cls := findClass_of_methodNamed Bd.named
  have hnm := (name_of_methodNamed Bd.named Bd.method).1
  have X0 : Stand p l e oR1 s m #[(.ref b)] below meth c s₁ [] 0 0 := Stand.of_body Bd
  have e0 : s₁.heap = h0 := by rw [← hh, Bd.state]; rfl
  have N0 := Fr.nil n0
  have pre0 : ∀ tZ, Steps p.tables e below (s₁.setTop (mkF m 0 #[.val (.ref b)] [])) tZ → Steps p.tables e below (s₁.setTop (entryFrame m #[(.ref b)] 1)) tZ := fun tZ kZ => castTop (ef14 m b) kZ
  obtain ⟨T1, X1, e1, st1⟩ := getS2 X0 hx hZ hown (host := "") (Or.inl (ow hw 54 rfl)) Via.refl e0 (Cs.ext Ox.2) (g := (mkF m 0 #[.val (.ref b)] [])) rfl (hb hby d14_0)
  obtain ⟨T2, X2, e2, st2⟩ := getF X1 hx hZ hown (host := "") (Or.inl (ow hw 57 rfl)) Via.refl e1 F2 (g := (mkF m 7 #[.val (.ref b)] [(.ref b)])) rfl rfl (hb hby d14_7)
  obtain ⟨fsZ, hrZ, hrun, hended, hW, hsame⟩ := X2.leave (v := some (.int 1)) (fun h => by rw [Bd.returns] at h; cases h)
  refine ⟨_, _, pre0 _ ?_, hrun, hended, _, _, rfl, ?_, ⟨_, rfl⟩, hW, hsame.mono (by decide) (by decide)⟩
  · show Steps _ _ _ (s₁.setTop (mkF m 0 #[.val (.ref b)] [])) _
    refine st1 _ ?_
    refine XS.ifNo X1.here hx rfl (hb hby d14_3) rfl ((if0 _ _).trans (feq hcs).1) ?_
    refine XS.aloadN X1.here hx rfl (hb hby d14_6) rfl rfl ?_
    show Steps _ _ _ (T1.setTop (mkF m 7 #[.val (.ref b)] [(.ref b)])) _
    refine st2 _ ?_
    refine XS.ifNo X2.here hx rfl (hb hby d14_10) rfl ((if0 _ _).trans (teq (by decide)).2) ?_
    refine XS.iconst X2.here hx rfl (hb hby d14_13) ?_
    refine XS.goto X2.here hx rfl (pc0 := 14) (pc' := 18) rfl (hb hby d14_14) (by decide) (by decide) ?_
    show Steps _ _ _ (T2.setTop (mkF m 18 #[.val (.ref b)] [(.int 1)])) _
    exact retN X2 hx (t := .boolean) Bd.returns (by simp) (hb hby d14_18) hrZ
  · show Q14 Z b cs h0 n0 _ T2.heap _
    rw [e2]
    exact ⟨rfl, N0, rfl⟩
theorem pn5 : plainName "java/lang/StringLatin1" = true := by first | (simp [plainName, overriddenIn]; done) | decide +kernel
theorem d33_0 : decode jdk_43_method_3_code 0 = .ok (.iload_n 0, 1) := by decide +kernel
theorem d33_1 : decode jdk_43_method_3_code 1 = .ok (.sipush 255, 3) := by decide +kernel
theorem d33_4 : decode jdk_43_method_3_code 4 = .ok (.if_icmp .gt 7, 3) := by decide +kernel
theorem d33_7 : decode jdk_43_method_3_code 7 = .ok (.iconst 1, 1) := by decide +kernel
theorem d33_8 : decode jdk_43_method_3_code 8 = .ok (.goto 4, 3) := by decide +kernel
theorem d33_12 : decode jdk_43_method_3_code 12 = .ok (.ireturn, 1) := by decide +kernel
theorem ef33 (m : MethodId)  : entryFrame m #[(.int 47)] 1 = mkF m 0 #[.val (.int 47)] [] := by first | (simp [entryFrame, mkF, argsToLocals, Value.category]; done) | rfl
def Q33 (Z : State)  (h0 : Heap) (n0 : Nat) (v : Option Value) (h : Heap) (L : List Loc) : Prop := v = some (.int 1) ∧ Fr n0 L ∧ h = h0
theorem rm33 (l : Launch) (Z : State) (a0 : Array Value) (hw : ∀ d ∈ tables_1, d.before a0 Z = true) (ws : List Jvm.Cond)  (h0 : Heap) (n0 : Nat) (Z0 : n0 ≤ h0.size) :
    MetFree l oM10 (head1 (Jvm.Cond.code oM10 jdk_43_method_3_code 1 (some .boolean) :: ws) oR1) (fun a U => a = #[(.int 47)] ∧ Z.Warmed39 U.vm ∧ U.heap = h0) (fun _ _ _ _ _ => True) (fun _ U o U' => ∃ v L, o = .returned v ∧ Q33 Z  h0 n0 v U'.heap L ∧ FrameEnd U o U' L oR1.cells oR1.slots) := by
  refine MetFree.of_bodySF (plainFor_of_name pn5) hisR ?_
  intro p e s m args below meth c s₁ Bd hml0 hP hK
  obtain ⟨rfl, hZ, hh⟩ := hP
  have hx := Bd.exec
  have hby := Bd.bytes
  have hml : c.maxLocals = 1 := hml0
  have hown : s.vm.findClass "java/lang/StringLatin1" = some m.cls := findClass_of_methodNamed Bd.named
  have hnm := (name_of_methodNamed Bd.named Bd.method).1
  have X0 : Stand p l e oR1 s m #[(.int 47)] below meth c s₁ [] 0 0 := Stand.of_body Bd
  have e0 : s₁.heap = h0 := by rw [← hh, Bd.state]; rfl
  have N0 := Fr.nil n0
  have pre0 : ∀ tZ, Steps p.tables e below (s₁.setTop (mkF m 0 #[.val (.int 47)] [])) tZ → Steps p.tables e below (s₁.setTop (entryFrame m #[(.int 47)] 1)) tZ := fun tZ kZ => castTop (ef33 m ) kZ
  obtain ⟨fsZ, hrZ, hrun, hended, hW, hsame⟩ := X0.leave (v := some (.int 1)) (fun h => by rw [Bd.returns] at h; cases h)
  refine ⟨_, _, pre0 _ ?_, hrun, hended, _, _, rfl, ?_, ⟨_, rfl⟩, hW, hsame.mono (by decide) (by decide)⟩
  · show Steps _ _ _ (s₁.setTop (mkF m 0 #[.val (.int 47)] [])) _
    refine XS.iloadN X0.here hx rfl (hb hby d33_0) rfl  ?_
    refine XS.sipush X0.here hx rfl (hb hby d33_1) ?_
    refine XS.icmpNo X0.here hx rfl (hb hby d33_4) rfl (flt (by decide)).2.2.1 ?_
    refine XS.iconst X0.here hx rfl (hb hby d33_7) ?_
    refine XS.goto X0.here hx rfl (pc0 := 8) (pc' := 12) rfl (hb hby d33_8) (by decide) (by decide) ?_
    show Steps _ _ _ (s₁.setTop (mkF m 12 #[.val (.int 47)] [(.int 1)])) _
    exact retN X0 hx (t := .boolean) Bd.returns (by simp) (hb hby d33_12) hrZ
  · show Q33 Z  h0 n0 _ s₁.heap _
    rw [e0]
    exact ⟨rfl, N0, rfl⟩
theorem d32_0 : decode jdk_68_method_9_code 0 = .ok (.aload_n 0, 1) := by decide +kernel
theorem d32_1 : decode jdk_68_method_9_code 1 = .ok (.getfield 15, 3) := by decide +kernel
theorem d32_4 : decode jdk_68_method_9_code 4 = .ok (.arraylength, 1) := by decide +kernel
theorem d32_5 : decode jdk_68_method_9_code 5 = .ok (.aload_n 0, 1) := by decide +kernel
theorem d32_6 : decode jdk_68_method_9_code 6 = .ok (.getfield 22, 3) := by decide +kernel
theorem d32_9 : decode jdk_68_method_9_code 9 = .ok (.ishr, 1) := by decide +kernel
theorem d32_10 : decode jdk_68_method_9_code 10 = .ok (.istore_n 2, 1) := by decide +kernel
theorem d32_11 : decode jdk_68_method_9_code 11 = .ok (.iload_n 1, 1) := by decide +kernel
theorem d32_12 : decode jdk_68_method_9_code 12 = .ok (.iload_n 2, 1) := by decide +kernel
theorem d32_13 : decode jdk_68_method_9_code 13 = .ok (.isub, 1) := by decide +kernel
theorem d32_14 : decode jdk_68_method_9_code 14 = .ok (.ifCond .le 24, 3) := by decide +kernel
theorem d32_38 : decode jdk_68_method_9_code 38 = .ok (.return_, 1) := by decide +kernel
theorem ef32 (m : MethodId) (b : Addr) (mc : Int32) : entryFrame m #[(.ref b), (.int mc)] 3 = mkF m 0 #[.val (.ref b), .val (.int mc), .unset] [] := by first | (simp [entryFrame, mkF, argsToLocals, Value.category]; done) | rfl
def Q32 (Z : State) (b : Addr) (mc : Int32) (va : Addr) (kv : ClassId) (y0 : Int32) (y1 : Int32) (y2 : Int32) (y3 : Int32) (h0 : Heap) (n0 : Nat) (v : Option Value) (h : Heap) (L : List Loc) : Prop := v = none ∧ Fr n0 L ∧ h = h0
theorem rm32 (l : Launch) (Z : State) (a0 : Array Value) (hw : ∀ d ∈ tables_1, d.before a0 Z = true) (ws : List Jvm.Cond) (b : Addr) (mc : Int32) (va : Addr) (kv : ClassId) (y0 : Int32) (y1 : Int32) (y2 : Int32) (y3 : Int32) (h0 : Heap) (n0 : Nat) (Z0 : n0 ≤ h0.size) (F0 : Exa Z h0 b oB) (F1 : Fld Z h0 b oA "value" "[B" (.ref va)) (F2 : Fld Z h0 b oA "coder" "B" (.int 0)) (F4 : Arv Z h0 va kv .byte (16 : Int32) [(.int y0), (.int y1), (.int y2), (.int y3)] (.int 0)) (hm : ¬ ((0 : Int32) < (mc - (16 : Int32)))) :
    MetFree l oM11 (head1 (Jvm.Cond.code oM11 jdk_68_method_9_code 3 none :: ws) oR1) (fun a U => a = #[(.ref b), (.int mc)] ∧ Z.Warmed39 U.vm ∧ U.heap = h0) (fun _ _ _ _ _ => True) (fun _ U o U' => ∃ v L, o = .returned v ∧ Q32 Z b mc va kv y0 y1 y2 y3 h0 n0 v U'.heap L ∧ FrameEnd U o U' L oR1.cells oR1.slots) := by
  refine MetFree.of_bodySF (plainFor_of_name pn3) hisR ?_
  intro p e s m args below meth c s₁ Bd hml0 hP hK
  obtain ⟨rfl, hZ, hh⟩ := hP
  have hx := Bd.exec
  have hby := Bd.bytes
  have hml : c.maxLocals = 3 := hml0
  have hown : s.vm.findClass oA = some m.cls := findClass_of_methodNamed Bd.named
  have hnm := (name_of_methodNamed Bd.named Bd.method).1
  have X0 : Stand p l e oR1 s m #[(.ref b), (.int mc)] below meth c s₁ [] 0 0 := Stand.of_body Bd
  have e0 : s₁.heap = h0 := by rw [← hh, Bd.state]; rfl
  have N0 := Fr.nil n0
  have pre0 : ∀ tZ, Steps p.tables e below (s₁.setTop (mkF m 0 #[.val (.ref b), .val (.int mc), .unset] [])) tZ → Steps p.tables e below (s₁.setTop (entryFrame m #[(.ref b), (.int mc)] 3)) tZ := fun tZ kZ => castTop (ef32 m b mc) kZ
  obtain ⟨T1, X1, e1, st1⟩ := getF X0 hx hZ hown (host := "") (Or.inl (ow hw 55 rfl)) Via.refl e0 F1 (g := (mkF m 1 #[.val (.ref b), .val (.int mc), .unset] [(.ref b)])) rfl rfl (hb hby d32_1)
  obtain ⟨c2, Arc2, -, Sc2, Mc2, -, -⟩ := id F4
  obtain ⟨T3, X3, e3, st3⟩ := getF X1 hx hZ hown (host := "") (Or.inl (ow hw 57 rfl)) Via.refl e1 F2 (g := (mkF m 6 #[.val (.ref b), .val (.int mc), .unset] [(.ref b), (.int 16)])) rfl rfl (hb hby d32_6)
  obtain ⟨fsZ, hrZ, hrun, hended, hW, hsame⟩ := X3.leave (v := none) (fun _ => rfl)
  refine ⟨_, _, pre0 _ ?_, hrun, hended, _, _, rfl, ?_, ⟨_, rfl⟩, hW, hsame.mono (by decide) (by decide)⟩
  · show Steps _ _ _ (s₁.setTop (mkF m 0 #[.val (.ref b), .val (.int mc), .unset] [])) _
    refine XS.aloadN X0.here hx rfl (hb hby d32_0) rfl rfl ?_
    show Steps _ _ _ (s₁.setTop (mkF m 1 #[.val (.ref b), .val (.int mc), .unset] [(.ref b)])) _
    refine st1 _ ?_
    show Steps _ _ _ (T1.setTop (mkF m 4 #[.val (.ref b), .val (.int mc), .unset] [(.ref va)])) _
    refine X1.arraylength hx (by rw [e1]; exact Arc2.1) (State.isArrayOf_alike hZ.alike Arc2.2.1) (g := (mkF m 4 #[.val (.ref b), .val (.int mc), .unset] [(.ref va)])) rfl rfl (hb hby d32_4) _ ?_
    rw [len_of Sc2 Mc2]
    show Steps _ _ _ (T1.setTop (mkF m 5 #[.val (.ref b), .val (.int mc), .unset] [(.int 16)])) _
    refine XS.aloadN X1.here hx rfl (hb hby d32_5) rfl rfl ?_
    show Steps _ _ _ (T1.setTop (mkF m 6 #[.val (.ref b), .val (.int mc), .unset] [(.ref b), (.int 16)])) _
    refine st3 _ ?_
    refine XS.ishr X3.here hx rfl (hb hby d32_9) rfl ?_
    show Steps _ _ _ (T3.setTop (mkF m 10 #[.val (.ref b), .val (.int mc), .unset] [(.int ((16 : Int32) >>> ((0 : Int32) &&& 31)))])) _
    rw [show ((16 : Int32) >>> ((0 : Int32) &&& 31)) = (16 : Int32) from by decide]
    show Steps _ _ _ (T3.setTop (mkF m 10 #[.val (.ref b), .val (.int mc), .unset] [(.int 16)])) _
    refine XS.istoreN X3.here hx rfl (hb hby d32_10) rfl (l' := #[.val (.ref b), .val (.int mc), .val (.int 16)]) rfl ?_
    refine XS.iloadN X3.here hx rfl (hb hby d32_11) rfl  ?_
    refine XS.iloadN X3.here hx rfl (hb hby d32_12) rfl  ?_
    refine XS.isub X3.here hx rfl (hb hby d32_13) rfl ?_
    refine XS.ifYes X3.here hx rfl (pc0 := 14) (pc' := 38) rfl (hb hby d32_14) rfl ((if0 _ _).trans (flt hm).2.2.2) (by decide) (by decide) ?_
    show Steps _ _ _ (T3.setTop (mkF m 38 #[.val (.ref b), .val (.int mc), .val (.int 16)] [])) _
    exact X3.returnOut hx Bd.returns (hb hby d32_38) hrZ
  · show Q32 Z b mc va kv y0 y1 y2 y3 h0 n0 _ T3.heap _
    rw [e3]
    exact ⟨rfl, N0, rfl⟩
theorem d31_0 : decode jdk_68_method_31_code 0 = .ok (.aload_n 0, 1) := by decide +kernel
theorem d31_1 : decode jdk_68_method_31_code 1 = .ok (.aload_n 0, 1) := by decide +kernel
theorem d31_2 : decode jdk_68_method_31_code 2 = .ok (.getfield 79, 3) := by decide +kernel
theorem d31_5 : decode jdk_68_method_31_code 5 = .ok (.iconst 1, 1) := by decide +kernel
theorem d31_6 : decode jdk_68_method_31_code 6 = .ok (.iadd, 1) := by decide +kernel
theorem d31_7 : decode jdk_68_method_31_code 7 = .ok (.invokevirtual 100, 3) := by decide +kernel
theorem d31_10 : decode jdk_68_method_31_code 10 = .ok (.aload_n 0, 1) := by decide +kernel
theorem d31_11 : decode jdk_68_method_31_code 11 = .ok (.invokevirtual 83, 3) := by decide +kernel
theorem d31_14 : decode jdk_68_method_31_code 14 = .ok (.ifCond .eq 31, 3) := by decide +kernel
theorem d31_17 : decode jdk_68_method_31_code 17 = .ok (.iload_n 1, 1) := by decide +kernel
theorem d31_18 : decode jdk_68_method_31_code 18 = .ok (.invokestatic 191, 3) := by decide +kernel
theorem pd6 : parseMethodDescriptor "(C)Z" = some ⟨[.char], some .boolean⟩ := by decide +kernel
theorem d31_21 : decode jdk_68_method_31_code 21 = .ok (.ifCond .eq 24, 3) := by decide +kernel
theorem d31_24 : decode jdk_68_method_31_code 24 = .ok (.aload_n 0, 1) := by decide +kernel
theorem d31_25 : decode jdk_68_method_31_code 25 = .ok (.getfield 15, 3) := by decide +kernel
theorem d31_28 : decode jdk_68_method_31_code 28 = .ok (.aload_n 0, 1) := by decide +kernel
theorem d31_29 : decode jdk_68_method_31_code 29 = .ok (.dup, 1) := by decide +kernel
theorem d31_30 : decode jdk_68_method_31_code 30 = .ok (.getfield 79, 3) := by decide +kernel
theorem d31_33 : decode jdk_68_method_31_code 33 = .ok (.dup_x1, 1) := by decide +kernel
theorem d31_34 : decode jdk_68_method_31_code 34 = .ok (.iconst 1, 1) := by decide +kernel
theorem d31_35 : decode jdk_68_method_31_code 35 = .ok (.iadd, 1) := by decide +kernel
theorem d31_36 : decode jdk_68_method_31_code 36 = .ok (.putfield 79, 3) := by decide +kernel
theorem d31_39 : decode jdk_68_method_31_code 39 = .ok (.iload_n 1, 1) := by decide +kernel
theorem d31_40 : decode jdk_68_method_31_code 40 = .ok (.i2b, 1) := by decide +kernel
theorem d31_41 : decode jdk_68_method_31_code 41 = .ok (.bastore, 1) := by decide +kernel
theorem d31_42 : decode jdk_68_method_31_code 42 = .ok (.goto 33, 3) := by decide +kernel
theorem d31_75 : decode jdk_68_method_31_code 75 = .ok (.aload_n 0, 1) := by decide +kernel
theorem d31_76 : decode jdk_68_method_31_code 76 = .ok (.areturn, 1) := by decide +kernel
theorem ef31c0 (m : MethodId) (b : Addr) : entryFrame m #[(.ref b), (.int 47)] 2 = mkF m 0 #[.val (.ref b), .val (.int 47)] [] := by first | (simp [entryFrame, mkF, argsToLocals, Value.category]; done) | rfl
def Q31c0 (Z : State) (b : Addr) (va : Addr) (kv : ClassId) (y0 : Int32) (y1 : Int32) (y2 : Int32) (y3 : Int32) (cs : Int32) (h0 : Heap) (n0 : Nat) (v : Option Value) (h : Heap) (L : List Loc) : Prop := v = some (.ref b) ∧ Fr n0 L ∧ Keep h0 h [b, va] ∧ Exa Z h b oB ∧ Fld Z h b oA "value" "[B" (.ref va) ∧ Fld Z h b oA "coder" "B" (.int 0) ∧ Fld Z h b oA "count" "I" (.int 1) ∧ Arv Z h va kv .byte (16 : Int32) [(.int 47), (.int y1), (.int y2), (.int y3)] (.int 0)
theorem rm31c0 (l : Launch) (Z : State) (a0 : Array Value) (hw : ∀ d ∈ tables_1, d.before a0 Z = true) (ws : List Jvm.Cond) (b : Addr) (va : Addr) (kv : ClassId) (y0 : Int32) (y1 : Int32) (y2 : Int32) (y3 : Int32) (cs : Int32) (h0 : Heap) (n0 : Nat) (Z0 : n0 ≤ h0.size) (F0 : Exa Z h0 b oB) (F1 : Fld Z h0 b oA "value" "[B" (.ref va)) (F2 : Fld Z h0 b oA "coder" "B" (.int 0)) (F3 : Fld Z h0 b oA "count" "I" (.int 0)) (F4 : Arv Z h0 va kv .byte (16 : Int32) [(.int y0), (.int y1), (.int y2), (.int y3)] (.int 0)) (gx1 : n0 ≤ b) (gx2 : n0 ≤ va) (nx1 : b ≠ va) (Cs : Sta Z Z.heap oS "COMPACT_STRINGS" "Z" (.int cs)) (hcs : ¬ (cs = (0 : Int32))) (Ox : Old Z n0 h0) :
    MetFree l oM12 (head1 (Jvm.Cond.code oM12 jdk_68_method_31_code 2 (some (.object oA)) :: ws) oR6) (fun a U => a = #[(.ref b), (.int 47)] ∧ Z.Warmed39 U.vm ∧ U.heap = h0) (fun _ _ _ _ _ => True) (fun _ U o U' => ∃ v L, o = .returned v ∧ Q31c0 Z b va kv y0 y1 y2 y3 cs h0 n0 v U'.heap L ∧ FrameEnd U o U' L oR6.cells oR6.slots) := by
  refine MetFree.of_bodySF (plainFor_of_name pn3) hisR ?_
  intro p e s m args below meth c s₁ Bd hml0 hP hK
  obtain ⟨rfl, hZ, hh⟩ := hP
  have hx := Bd.exec
  have hby := Bd.bytes
  have hml : c.maxLocals = 2 := hml0
  have hown : s.vm.findClass oA = some m.cls := findClass_of_methodNamed Bd.named
  have hnm := (name_of_methodNamed Bd.named Bd.method).1
  have X0 : Stand p l e oR6 s m #[(.ref b), (.int 47)] below meth c s₁ [] 0 0 := Stand.of_body Bd
  have e0 : s₁.heap = h0 := by rw [← hh, Bd.state]; rfl
  have N0 := Fr.nil n0
  have pre0 : ∀ tZ, Steps p.tables e below (s₁.setTop (mkF m 0 #[.val (.ref b), .val (.int 47)] [])) tZ → Steps p.tables e below (s₁.setTop (entryFrame m #[(.ref b), (.int 47)] 2)) tZ := fun tZ kZ => castTop (ef31c0 m b) kZ
  obtain ⟨T1, X1, e1, st1⟩ := getF X0 hx hZ hown (host := "") (Or.inl (ow hw 87 rfl)) Via.refl e0 F3 (g := (mkF m 2 #[.val (.ref b), .val (.int 47)] [(.ref b), (.ref b)])) rfl rfl (hb hby d31_2)
  obtain ⟨cq2, q2, q2'⟩ := F0.cell
  obtain ⟨_, _, ⟨T2, L2, k2, n2⟩, -, X2, ⟨Lc2, hQ2, l2, y2, z2⟩, st2⟩ := X1.privateBack hx (y := oM11) hown (mvT hZ (ow hw 172 rfl)) (mvT hZ (ow hw 173 rfl)) (own_selN hZ (notFace_of_selects (args := #[]) (mvT hZ (ow hw 175 rfl))) (ow hw 174 rfl) (ow hw 173 rfl) (by decide)) (Cond.privateMethod_at (mvP hZ (ow hw 174 rfl) (args := #[]))) (mvT hZ (ow hw 176 rfl)) (by decide) (backOf (W := 0) (rm32 l Z a0 hw [] b (1 : Int32) va kv y0 y1 y2 y3 h0 n0 Z0 F0 F1 F2 F4 (by first | assumption | decide | omega)) hZ (ow hw 176 rfl) (ow hw 51 rfl) (by decide) (by decide)) (g := (mkF m 7 #[.val (.ref b), .val (.int 47)] [(.int 1), (.ref b)])) rfl (by rw [hml]; rfl) (Steps.refl _) (a := b) (by rw [e1]; exact q2) q2' (argsL := [(.int 1)]) (rest := []) (lenOf pd1 rfl) rfl (Nat.le_of_eq rfl) (hb hby d31_7) (fun _ _ => ⟨rfl, e1, (by decide : 0 + 0 ≤ _), (by decide : 0 + 0 ≤ _)⟩)
  dsimp only [Pt.U, Pt.locs, Pt.cells, Pt.slots] at X2 l2 y2 z2 st2 hQ2
  subst l2 y2 z2
  obtain ⟨rfl, N2q, e2⟩ := hQ2
  have N2 := Fr.app N0 N2q
  obtain ⟨cq3, kq3, q3a, q3b, q3c⟩ := isOf hZ e2 F0
  obtain ⟨_, _, ⟨T3, L3, k3, n3⟩, -, X3, ⟨Lc3, hQ3, l3, y3, z3⟩, st3⟩ := X2.virtualBack hx (y := oM9) (z := oM9) hown (mvT hZ (ow hw 177 rfl)) (mvT hZ (ow hw 90 rfl)) (notFace_of_selects (args := #[]) (mvT hZ (ow hw 92 rfl))) (mvT hZ (ow hw 92 rfl)) (mvT hZ (ow hw 91 rfl)) (by decide) (backOf (W := 0) (rm14 l Z a0 hw [] b cs h0 n0 Z0 F2 Cs (by first | assumption | decide | omega) Ox) hZ (ow hw 93 rfl) (ow hw 51 rfl) (by decide) (by decide)) q3a q3c (g := (mkF m 11 #[.val (.ref b), .val (.int 47)] [(.ref b)])) rfl (by rw [hml]; rfl) (Steps.refl _) (argsL := []) (rest := []) (lenOf pd2 rfl) rfl (Nat.le_of_eq rfl) (hb hby d31_11) (fun _ _ => ⟨rfl, e2, (by decide : 0 + 0 ≤ _), (by decide : 0 + 0 ≤ _)⟩)
  dsimp only [Pt.U, Pt.locs, Pt.cells, Pt.slots] at X3 l3 y3 z3 st3 hQ3
  subst l3 y3 z3
  obtain ⟨rfl, N3q, e3⟩ := hQ3
  have N3 := Fr.app N2 N3q
  obtain ⟨_, _, ⟨T4, L4, k4, n4⟩, -, X4, ⟨Lc4, hQ4, l4, y4, z4⟩, st4⟩ := Jvm.LawKit.callS X3 hx (y := oM10) hown (mvT hZ (ow hw 178 rfl)) (mvT hZ (ow hw 179 rfl)) (mvT hZ (ow hw 123 rfl)) (mvT hZ (ow hw 180 rfl)) (by decide) (backOf (W := 0) (rm33 l Z a0 hw []  h0 n0 Z0 ) hZ (ow hw 180 rfl) (ow hw 123 rfl) (by decide) (by decide)) (g := (mkF m 18 #[.val (.ref b), .val (.int 47)] [(.int 47)])) rfl (by rw [hml]; rfl) (argsL := [(.int 47)]) (rest := []) (lenOf pd6 rfl) rfl (Nat.le_of_eq rfl) (hb hby d31_18) (fun _ _ => ⟨rfl, e3, (by decide : 0 + 0 ≤ _), (by decide : 0 + 0 ≤ _)⟩)
  dsimp only [Pt.U, Pt.locs, Pt.cells, Pt.slots] at X4 l4 y4 z4 st4 hQ4
  subst l4 y4 z4
  obtain ⟨rfl, N4q, e4⟩ := hQ4
  have N4 := Fr.app N3 N4q
  obtain ⟨T5, X5, e5, st5⟩ := getF X4 hx hZ hown (host := "") (Or.inl (ow hw 55 rfl)) Via.refl e4 F1 (g := (mkF m 25 #[.val (.ref b), .val (.int 47)] [(.ref b)])) rfl rfl (hb hby d31_25)
  obtain ⟨T6, X6, e6, st6⟩ := getF X5 hx hZ hown (host := "") (Or.inl (ow hw 87 rfl)) Via.refl e5 F3 (g := (mkF m 30 #[.val (.ref b), .val (.int 47)] [(.ref b), (.ref b), (.ref va)])) rfl rfl (hb hby d31_30)
  obtain ⟨T7, h7, X7, e7, W7, st7⟩ := putF X6 hx hZ hown (host := "") (Or.inl (ow hw 87 rfl)) Via.refl e6 F3 F0 (Or.inl (ow hw 88 rfl)) (ow hw 42 rfl) (ty := .int) (by decide) rfl rfl (g := (mkF m 36 #[.val (.ref b), .val (.int 47)] [(.int 1), (.ref b), (.int 0), (.ref va)])) rfl rfl (hb hby d31_36)
  have fw7 : Fld Z h7 b oA "count" "I" (.int 1) := F3.same W7
  have Z8 : n0 ≤ h7.size := Nat.le_trans Z0 (Nat.le_of_eq W7.size.symm)
  have K9 : Keep h0 h7 [b, va] := (Keep.refl h0 [b, va]).wr W7 (Or.inl (List.mem_of_getElem? (i := 0) rfl))
  have N7 := Fr.snoc X7 N4 gx1
  have fa10 := (F4.other W7 (Ne.symm nx1))
  obtain ⟨c11, Arc11, qc11, Sc11, Mc11, Hc11, Gc11⟩ := id fa10
  have hinc11 : ¬ ((0 : Int32) < 0 ∨ c11.slots.size ≤ ((0 : Int32)).toNatClampNeg) := inb_of Sc11 ⟨by decide, by decide⟩
  obtain ⟨T12, h12, X12, e12, W12, st12⟩ := stB X7 hx hZ e7 Arc11 (j := (0 : Int32)) hinc11  (g := (mkF m 41 #[.val (.ref b), .val (.int 47)] [(.int 47), (.int 0), (.ref va)])) rfl rfl (hb hby d31_41)
  have V12 : Arv Z h12 va kv .byte (16 : Int32) [(.int 47), (.int y1), (.int y2), (.int y3)] (.int 0) := Arv.set Arc11 qc11 Sc11 Mc11 Hc11 Gc11 (fits_nar_byte _) W12 0 rfl (Nat.le_of_ble_eq_true rfl)
  have Z13 : n0 ≤ h12.size := Nat.le_trans Z8 (Nat.le_of_eq W12.size.symm)
  have K14 : Keep h0 h12 [b, va] := K9.wr W12 (Or.inl (List.mem_of_getElem? (i := 1) rfl))
  have N12 := Fr.snoc X12 N7 gx2
  obtain ⟨fsZ, hrZ, hrun, hended, hW, hsame⟩ := X12.leave (v := some (.ref b)) (fun h => by rw [Bd.returns] at h; cases h)
  have fa15 := ((F0.wr W7).wr W12)
  have fa16 := ((F1.other W7 (Or.inr (slot_ne (Or.inl (ow hw 56 rfl)) (Or.inl (ow hw 88 rfl)) (by decide) (t := (.array .byte)) (t' := .int) (by decide) (by decide)))).other W12 (Or.inl nx1))
  have fa17 := ((F2.other W7 (Or.inr (slot_ne (Or.inl (ow hw 58 rfl)) (Or.inl (ow hw 88 rfl)) (by decide) (t := .byte) (t' := .int) (by decide) (by decide)))).other W12 (Or.inl nx1))
  have fa18 := (fw7.other W12 (Or.inl nx1))
  refine ⟨_, _, pre0 _ ?_, hrun, hended, _, _, rfl, ?_, ⟨_, rfl⟩, hW, hsame.mono (by decide) (by decide)⟩
  · show Steps _ _ _ (s₁.setTop (mkF m 0 #[.val (.ref b), .val (.int 47)] [])) _
    refine XS.aloadN X0.here hx rfl (hb hby d31_0) rfl rfl ?_
    refine XS.aloadN X0.here hx rfl (hb hby d31_1) rfl rfl ?_
    show Steps _ _ _ (s₁.setTop (mkF m 2 #[.val (.ref b), .val (.int 47)] [(.ref b), (.ref b)])) _
    refine st1 _ ?_
    refine XS.iconst X1.here hx rfl (hb hby d31_5) ?_
    refine XS.iadd X1.here hx rfl (hb hby d31_6) rfl ?_
    show Steps _ _ _ (T1.setTop (mkF m 7 #[.val (.ref b), .val (.int 47)] [(.int ((0 : Int32) + (1 : Int32))), (.ref b)])) _
    rw [show ((0 : Int32) + (1 : Int32)) = (1 : Int32) from by decide]
    show Steps _ _ _ (T1.setTop (mkF m 7 #[.val (.ref b), .val (.int 47)] [(.int 1), (.ref b)])) _
    refine st2.trans ?_
    refine XS.aloadN X2.here hx rfl (hb hby d31_10) rfl rfl ?_
    show Steps _ _ _ (T2.setTop (mkF m 11 #[.val (.ref b), .val (.int 47)] [(.ref b)])) _
    refine st3.trans ?_
    refine XS.ifNo X3.here hx rfl (hb hby d31_14) rfl ((if0 _ _).trans (feq (by decide)).1) ?_
    refine XS.iloadN X3.here hx rfl (hb hby d31_17) rfl  ?_
    show Steps _ _ _ (T3.setTop (mkF m 18 #[.val (.ref b), .val (.int 47)] [(.int 47)])) _
    refine st4 _ ?_
    refine XS.ifNo X4.here hx rfl (hb hby d31_21) rfl ((if0 _ _).trans (feq (by decide)).1) ?_
    refine XS.aloadN X4.here hx rfl (hb hby d31_24) rfl rfl ?_
    show Steps _ _ _ (T4.setTop (mkF m 25 #[.val (.ref b), .val (.int 47)] [(.ref b)])) _
    refine st5 _ ?_
    refine XS.aloadN X5.here hx rfl (hb hby d31_28) rfl rfl ?_
    refine XS.dup X5.here hx rfl (hb hby d31_29) rfl rfl ?_
    show Steps _ _ _ (T5.setTop (mkF m 30 #[.val (.ref b), .val (.int 47)] [(.ref b), (.ref b), (.ref va)])) _
    refine st6 _ ?_
    refine XS.dupX1 X6.here hx rfl (hb hby d31_33) rfl rfl rfl ?_
    refine XS.iconst X6.here hx rfl (hb hby d31_34) ?_
    refine XS.iadd X6.here hx rfl (hb hby d31_35) rfl ?_
    show Steps _ _ _ (T6.setTop (mkF m 36 #[.val (.ref b), .val (.int 47)] [(.int ((0 : Int32) + (1 : Int32))), (.ref b), (.int 0), (.ref va)])) _
    rw [show ((0 : Int32) + (1 : Int32)) = (1 : Int32) from by decide]
    show Steps _ _ _ (T6.setTop (mkF m 36 #[.val (.ref b), .val (.int 47)] [(.int 1), (.ref b), (.int 0), (.ref va)])) _
    refine st7 _ ?_
    refine XS.iloadN X7.here hx rfl (hb hby d31_39) rfl  ?_
    refine XS.i2b X7.here hx rfl (hb hby d31_40) rfl ?_
    show Steps _ _ _ (T7.setTop (mkF m 41 #[.val (.ref b), .val (.int 47)] [(.int ((47 : Int32).toInt8.toInt32)), (.int 0), (.ref va)])) _
    rw [show ((47 : Int32).toInt8.toInt32) = (47 : Int32) from by decide]
    show Steps _ _ _ (T7.setTop (mkF m 41 #[.val (.ref b), .val (.int 47)] [(.int 47), (.int 0), (.ref va)])) _
    refine st12 _ ?_
    refine XS.goto X12.here hx rfl (pc0 := 42) (pc' := 75) rfl (hb hby d31_42) (by decide) (by decide) ?_
    refine XS.aloadN X12.here hx rfl (hb hby d31_75) rfl rfl ?_
    show Steps _ _ _ (T12.setTop (mkF m 76 #[.val (.ref b), .val (.int 47)] [(.ref b)])) _
    jvm_step X12.here [X12.here.top, hx, (hb hby d31_76), X12.method', Bd.returns, Value.isRef, FieldType.isReference]
    first | (intro acts; rw [hrZ _ acts rfl rfl rfl]) | rw [hrZ _ _ rfl rfl rfl]
    exact Steps.refl _
  · show Q31c0 Z b va kv y0 y1 y2 y3 cs h0 n0 _ T12.heap _
    rw [e12]
    exact ⟨rfl, N12, K14, fa15, fa16, fa17, fa18, V12⟩
theorem d30_0 : decode jdk_67_method_14_code 0 = .ok (.aload_n 0, 1) := by decide +kernel
theorem d30_1 : decode jdk_67_method_14_code 1 = .ok (.iload_n 1, 1) := by decide +kernel
theorem d30_2 : decode jdk_67_method_14_code 2 = .ok (.invokespecial 50, 3) := by decide +kernel
theorem pd7 : parseMethodDescriptor "(C)Ljava/lang/AbstractStringBuilder;" = some ⟨[.char], some (.object oA)⟩ := by decide +kernel
theorem d30_5 : decode jdk_67_method_14_code 5 = .ok (.pop, 1) := by decide +kernel
theorem d30_6 : decode jdk_67_method_14_code 6 = .ok (.aload_n 0, 1) := by decide +kernel
theorem d30_7 : decode jdk_67_method_14_code 7 = .ok (.areturn, 1) := by decide +kernel
theorem ef30c0 (m : MethodId) (b : Addr) : entryFrame m #[(.ref b), (.int 47)] 2 = mkF m 0 #[.val (.ref b), .val (.int 47)] [] := by first | (simp [entryFrame, mkF, argsToLocals, Value.category]; done) | rfl
def Q30c0 (Z : State) (b : Addr) (va : Addr) (kv : ClassId) (y0 : Int32) (y1 : Int32) (y2 : Int32) (y3 : Int32) (cs : Int32) (h0 : Heap) (n0 : Nat) (v : Option Value) (h : Heap) (L : List Loc) : Prop := v = some (.ref b) ∧ Fr n0 L ∧ Keep h0 h [b, va] ∧ Exa Z h b oB ∧ Fld Z h b oA "value" "[B" (.ref va) ∧ Fld Z h b oA "coder" "B" (.int 0) ∧ Fld Z h b oA "count" "I" (.int 1) ∧ Arv Z h va kv .byte (16 : Int32) [(.int 47), (.int y1), (.int y2), (.int y3)] (.int 0)
theorem rm30c0 (l : Launch) (Z : State) (a0 : Array Value) (hw : ∀ d ∈ tables_1, d.before a0 Z = true) (ws : List Jvm.Cond) (b : Addr) (va : Addr) (kv : ClassId) (y0 : Int32) (y1 : Int32) (y2 : Int32) (y3 : Int32) (cs : Int32) (h0 : Heap) (n0 : Nat) (Z0 : n0 ≤ h0.size) (F0 : Exa Z h0 b oB) (F1 : Fld Z h0 b oA "value" "[B" (.ref va)) (F2 : Fld Z h0 b oA "coder" "B" (.int 0)) (F3 : Fld Z h0 b oA "count" "I" (.int 0)) (F4 : Arv Z h0 va kv .byte (16 : Int32) [(.int y0), (.int y1), (.int y2), (.int y3)] (.int 0)) (gx1 : n0 ≤ b) (gx2 : n0 ≤ va) (nx1 : b ≠ va) (Cs : Sta Z Z.heap oS "COMPACT_STRINGS" "Z" (.int cs)) (hcs : ¬ (cs = (0 : Int32))) (Ox : Old Z n0 h0) :
    MetFree l oM13 (head1 (Jvm.Cond.code oM13 jdk_67_method_14_code 2 (some (.object oB)) :: ws) oR7) (fun a U => a = #[(.ref b), (.int 47)] ∧ Z.Warmed39 U.vm ∧ U.heap = h0) (fun _ _ _ _ _ => True) (fun _ U o U' => ∃ v L, o = .returned v ∧ Q30c0 Z b va kv y0 y1 y2 y3 cs h0 n0 v U'.heap L ∧ FrameEnd U o U' L oR7.cells oR7.slots) := by
  refine MetFree.of_bodySF (plainFor_of_name pn4) hisR ?_
  intro p e s m args below meth c s₁ Bd hml0 hP hK
  obtain ⟨rfl, hZ, hh⟩ := hP
  have hx := Bd.exec
  have hby := Bd.bytes
  have hml : c.maxLocals = 2 := hml0
  have hown : s.vm.findClass oB = some m.cls := findClass_of_methodNamed Bd.named
  have hnm := (name_of_methodNamed Bd.named Bd.method).1
  have X0 : Stand p l e oR7 s m #[(.ref b), (.int 47)] below meth c s₁ [] 0 0 := Stand.of_body Bd
  have e0 : s₁.heap = h0 := by rw [← hh, Bd.state]; rfl
  have N0 := Fr.nil n0
  have pre0 : ∀ tZ, Steps p.tables e below (s₁.setTop (mkF m 0 #[.val (.ref b), .val (.int 47)] [])) tZ → Steps p.tables e below (s₁.setTop (entryFrame m #[(.ref b), (.int 47)] 2)) tZ := fun tZ kZ => castTop (ef30c0 m b) kZ
  obtain ⟨_, _, ⟨T1, L1, k1, n1⟩, -, X1, ⟨Lc1, hQ1, l1, y1, z1⟩, st1⟩ := superBack X0 hx hZ (y := oM12) hown (ow hw 168 rfl) (own_same (ow hw 170 rfl) (ow hw 76 rfl) rfl (by decide)) (ow hw 169 rfl) (ow hw 85 rfl) (by decide) (backOf (W := 0) (rm31c0 l Z a0 hw [] b va kv y0 y1 y2 y3 cs h0 n0 Z0 F0 F1 F2 F3 F4 gx1 gx2 nx1 Cs (by first | assumption | decide | omega) Ox) hZ (ow hw 171 rfl) (ow hw 51 rfl) (by decide) (by decide)) e0 (Ins.self F0) (g := (mkF m 2 #[.val (.ref b), .val (.int 47)] [(.int 47), (.ref b)])) rfl (by rw [hml]; rfl) (ow hw 171 rfl) (argsL := [(.int 47)]) (rest := []) (lenOf pd7 rfl) rfl (Nat.le_of_eq rfl) (hb hby d30_2) (fun _ _ => ⟨rfl, e0, (by decide : 0 + 0 ≤ _), (by decide : 0 + 0 ≤ _)⟩)
  dsimp only [Pt.U, Pt.locs, Pt.cells, Pt.slots] at X1 l1 y1 z1 st1 hQ1
  subst l1 y1 z1
  obtain ⟨rfl, N1q, K1, f1_0, f1_1, f1_2, f1_3, f1_4⟩ := hQ1
  have N1 := Fr.app N0 N1q
  have Z2 : n0 ≤ T1.heap.size := Nat.le_trans Z0 K1.1
  have K3 : Keep h0 T1.heap [b, va] := (Keep.refl h0 [b, va]).trans K1 (allS (P := fun x => x ∈ _ ∨ _) (Or.inl (List.mem_of_getElem? (i := 0) rfl)) (allS (P := fun x => x ∈ _ ∨ _) (Or.inl (List.mem_of_getElem? (i := 1) rfl)) all0))
  obtain ⟨fsZ, hrZ, hrun, hended, hW, hsame⟩ := X1.leave (v := some (.ref b)) (fun h => by rw [Bd.returns] at h; cases h)
  refine ⟨_, _, pre0 _ ?_, hrun, hended, _, _, rfl, ?_, ⟨_, rfl⟩, hW, hsame.mono (by decide) (by decide)⟩
  · show Steps _ _ _ (s₁.setTop (mkF m 0 #[.val (.ref b), .val (.int 47)] [])) _
    refine XS.aloadN X0.here hx rfl (hb hby d30_0) rfl rfl ?_
    refine XS.iloadN X0.here hx rfl (hb hby d30_1) rfl  ?_
    show Steps _ _ _ (s₁.setTop (mkF m 2 #[.val (.ref b), .val (.int 47)] [(.int 47), (.ref b)])) _
    refine st1.trans ?_
    refine XS.pop X1.here hx rfl (hb hby d30_5) rfl rfl ?_
    refine XS.aloadN X1.here hx rfl (hb hby d30_6) rfl rfl ?_
    show Steps _ _ _ (T1.setTop (mkF m 7 #[.val (.ref b), .val (.int 47)] [(.ref b)])) _
    jvm_step X1.here [X1.here.top, hx, (hb hby d30_7), X1.method', Bd.returns, Value.isRef, FieldType.isReference]
    first | (intro acts; rw [hrZ _ acts rfl rfl rfl]) | rw [hrZ _ _ rfl rfl rfl]
    exact Steps.refl _
  · show Q30c0 Z b va kv y0 y1 y2 y3 cs h0 n0 _ T1.heap _
    exact ⟨rfl, N1, K3, f1_0, f1_1, f1_2, f1_3, f1_4⟩
theorem ef31c2 (m : MethodId) (b : Addr) : entryFrame m #[(.ref b), (.int 47)] 2 = mkF m 0 #[.val (.ref b), .val (.int 47)] [] := by first | (simp [entryFrame, mkF, argsToLocals, Value.category]; done) | rfl
def Q31c2 (Z : State) (b : Addr) (va : Addr) (kv : ClassId) (y0 : Int32) (y1 : Int32) (y2 : Int32) (y3 : Int32) (cs : Int32) (h0 : Heap) (n0 : Nat) (v : Option Value) (h : Heap) (L : List Loc) : Prop := v = some (.ref b) ∧ Fr n0 L ∧ Keep h0 h [b, va] ∧ Exa Z h b oB ∧ Fld Z h b oA "value" "[B" (.ref va) ∧ Fld Z h b oA "coder" "B" (.int 0) ∧ Fld Z h b oA "count" "I" (.int 3) ∧ Arv Z h va kv .byte (16 : Int32) [(.int y0), (.int y1), (.int 47), (.int y3)] (.int 0)
theorem rm31c2 (l : Launch) (Z : State) (a0 : Array Value) (hw : ∀ d ∈ tables_1, d.before a0 Z = true) (ws : List Jvm.Cond) (b : Addr) (va : Addr) (kv : ClassId) (y0 : Int32) (y1 : Int32) (y2 : Int32) (y3 : Int32) (cs : Int32) (h0 : Heap) (n0 : Nat) (Z0 : n0 ≤ h0.size) (F0 : Exa Z h0 b oB) (F1 : Fld Z h0 b oA "value" "[B" (.ref va)) (F2 : Fld Z h0 b oA "coder" "B" (.int 0)) (F3 : Fld Z h0 b oA "count" "I" (.int 2)) (F4 : Arv Z h0 va kv .byte (16 : Int32) [(.int y0), (.int y1), (.int y2), (.int y3)] (.int 0)) (gx1 : n0 ≤ b) (gx2 : n0 ≤ va) (nx1 : b ≠ va) (Cs : Sta Z Z.heap oS "COMPACT_STRINGS" "Z" (.int cs)) (hcs : ¬ (cs = (0 : Int32))) (Ox : Old Z n0 h0) :
    MetFree l oM12 (head1 (Jvm.Cond.code oM12 jdk_68_method_31_code 2 (some (.object oA)) :: ws) oR6) (fun a U => a = #[(.ref b), (.int 47)] ∧ Z.Warmed39 U.vm ∧ U.heap = h0) (fun _ _ _ _ _ => True) (fun _ U o U' => ∃ v L, o = .returned v ∧ Q31c2 Z b va kv y0 y1 y2 y3 cs h0 n0 v U'.heap L ∧ FrameEnd U o U' L oR6.cells oR6.slots) := by
  refine MetFree.of_bodySF (plainFor_of_name pn3) hisR ?_
  intro p e s m args below meth c s₁ Bd hml0 hP hK
  obtain ⟨rfl, hZ, hh⟩ := hP
  have hx := Bd.exec
  have hby := Bd.bytes
  have hml : c.maxLocals = 2 := hml0
  have hown : s.vm.findClass oA = some m.cls := findClass_of_methodNamed Bd.named
  have hnm := (name_of_methodNamed Bd.named Bd.method).1
  have X0 : Stand p l e oR6 s m #[(.ref b), (.int 47)] below meth c s₁ [] 0 0 := Stand.of_body Bd
  have e0 : s₁.heap = h0 := by rw [← hh, Bd.state]; rfl
  have N0 := Fr.nil n0
  have pre0 : ∀ tZ, Steps p.tables e below (s₁.setTop (mkF m 0 #[.val (.ref b), .val (.int 47)] [])) tZ → Steps p.tables e below (s₁.setTop (entryFrame m #[(.ref b), (.int 47)] 2)) tZ := fun tZ kZ => castTop (ef31c2 m b) kZ
  obtain ⟨T1, X1, e1, st1⟩ := getF X0 hx hZ hown (host := "") (Or.inl (ow hw 87 rfl)) Via.refl e0 F3 (g := (mkF m 2 #[.val (.ref b), .val (.int 47)] [(.ref b), (.ref b)])) rfl rfl (hb hby d31_2)
  obtain ⟨cq2, q2, q2'⟩ := F0.cell
  obtain ⟨_, _, ⟨T2, L2, k2, n2⟩, -, X2, ⟨Lc2, hQ2, l2, y2, z2⟩, st2⟩ := X1.privateBack hx (y := oM11) hown (mvT hZ (ow hw 172 rfl)) (mvT hZ (ow hw 173 rfl)) (own_selN hZ (notFace_of_selects (args := #[]) (mvT hZ (ow hw 175 rfl))) (ow hw 174 rfl) (ow hw 173 rfl) (by decide)) (Cond.privateMethod_at (mvP hZ (ow hw 174 rfl) (args := #[]))) (mvT hZ (ow hw 176 rfl)) (by decide) (backOf (W := 0) (rm32 l Z a0 hw [] b (3 : Int32) va kv y0 y1 y2 y3 h0 n0 Z0 F0 F1 F2 F4 (by first | assumption | decide | omega)) hZ (ow hw 176 rfl) (ow hw 51 rfl) (by decide) (by decide)) (g := (mkF m 7 #[.val (.ref b), .val (.int 47)] [(.int 3), (.ref b)])) rfl (by rw [hml]; rfl) (Steps.refl _) (a := b) (by rw [e1]; exact q2) q2' (argsL := [(.int 3)]) (rest := []) (lenOf pd1 rfl) rfl (Nat.le_of_eq rfl) (hb hby d31_7) (fun _ _ => ⟨rfl, e1, (by decide : 0 + 0 ≤ _), (by decide : 0 + 0 ≤ _)⟩)
  dsimp only [Pt.U, Pt.locs, Pt.cells, Pt.slots] at X2 l2 y2 z2 st2 hQ2
  subst l2 y2 z2
  obtain ⟨rfl, N2q, e2⟩ := hQ2
  have N2 := Fr.app N0 N2q
  obtain ⟨cq3, kq3, q3a, q3b, q3c⟩ := isOf hZ e2 F0
  obtain ⟨_, _, ⟨T3, L3, k3, n3⟩, -, X3, ⟨Lc3, hQ3, l3, y3, z3⟩, st3⟩ := X2.virtualBack hx (y := oM9) (z := oM9) hown (mvT hZ (ow hw 177 rfl)) (mvT hZ (ow hw 90 rfl)) (notFace_of_selects (args := #[]) (mvT hZ (ow hw 92 rfl))) (mvT hZ (ow hw 92 rfl)) (mvT hZ (ow hw 91 rfl)) (by decide) (backOf (W := 0) (rm14 l Z a0 hw [] b cs h0 n0 Z0 F2 Cs (by first | assumption | decide | omega) Ox) hZ (ow hw 93 rfl) (ow hw 51 rfl) (by decide) (by decide)) q3a q3c (g := (mkF m 11 #[.val (.ref b), .val (.int 47)] [(.ref b)])) rfl (by rw [hml]; rfl) (Steps.refl _) (argsL := []) (rest := []) (lenOf pd2 rfl) rfl (Nat.le_of_eq rfl) (hb hby d31_11) (fun _ _ => ⟨rfl, e2, (by decide : 0 + 0 ≤ _), (by decide : 0 + 0 ≤ _)⟩)
  dsimp only [Pt.U, Pt.locs, Pt.cells, Pt.slots] at X3 l3 y3 z3 st3 hQ3
  subst l3 y3 z3
  obtain ⟨rfl, N3q, e3⟩ := hQ3
  have N3 := Fr.app N2 N3q
  obtain ⟨_, _, ⟨T4, L4, k4, n4⟩, -, X4, ⟨Lc4, hQ4, l4, y4, z4⟩, st4⟩ := Jvm.LawKit.callS X3 hx (y := oM10) hown (mvT hZ (ow hw 178 rfl)) (mvT hZ (ow hw 179 rfl)) (mvT hZ (ow hw 123 rfl)) (mvT hZ (ow hw 180 rfl)) (by decide) (backOf (W := 0) (rm33 l Z a0 hw []  h0 n0 Z0 ) hZ (ow hw 180 rfl) (ow hw 123 rfl) (by decide) (by decide)) (g := (mkF m 18 #[.val (.ref b), .val (.int 47)] [(.int 47)])) rfl (by rw [hml]; rfl) (argsL := [(.int 47)]) (rest := []) (lenOf pd6 rfl) rfl (Nat.le_of_eq rfl) (hb hby d31_18) (fun _ _ => ⟨rfl, e3, (by decide : 0 + 0 ≤ _), (by decide : 0 + 0 ≤ _)⟩)
  dsimp only [Pt.U, Pt.locs, Pt.cells, Pt.slots] at X4 l4 y4 z4 st4 hQ4
  subst l4 y4 z4
  obtain ⟨rfl, N4q, e4⟩ := hQ4
  have N4 := Fr.app N3 N4q
  obtain ⟨T5, X5, e5, st5⟩ := getF X4 hx hZ hown (host := "") (Or.inl (ow hw 55 rfl)) Via.refl e4 F1 (g := (mkF m 25 #[.val (.ref b), .val (.int 47)] [(.ref b)])) rfl rfl (hb hby d31_25)
  obtain ⟨T6, X6, e6, st6⟩ := getF X5 hx hZ hown (host := "") (Or.inl (ow hw 87 rfl)) Via.refl e5 F3 (g := (mkF m 30 #[.val (.ref b), .val (.int 47)] [(.ref b), (.ref b), (.ref va)])) rfl rfl (hb hby d31_30)
  obtain ⟨T7, h7, X7, e7, W7, st7⟩ := putF X6 hx hZ hown (host := "") (Or.inl (ow hw 87 rfl)) Via.refl e6 F3 F0 (Or.inl (ow hw 88 rfl)) (ow hw 42 rfl) (ty := .int) (by decide) rfl rfl (g := (mkF m 36 #[.val (.ref b), .val (.int 47)] [(.int 3), (.ref b), (.int 2), (.ref va)])) rfl rfl (hb hby d31_36)
  have fw7 : Fld Z h7 b oA "count" "I" (.int 3) := F3.same W7
  have Z8 : n0 ≤ h7.size := Nat.le_trans Z0 (Nat.le_of_eq W7.size.symm)
  have K9 : Keep h0 h7 [b, va] := (Keep.refl h0 [b, va]).wr W7 (Or.inl (List.mem_of_getElem? (i := 0) rfl))
  have N7 := Fr.snoc X7 N4 gx1
  have fa10 := (F4.other W7 (Ne.symm nx1))
  obtain ⟨c11, Arc11, qc11, Sc11, Mc11, Hc11, Gc11⟩ := id fa10
  have hinc11 : ¬ ((2 : Int32) < 0 ∨ c11.slots.size ≤ ((2 : Int32)).toNatClampNeg) := inb_of Sc11 ⟨by decide, by decide⟩
  obtain ⟨T12, h12, X12, e12, W12, st12⟩ := stB X7 hx hZ e7 Arc11 (j := (2 : Int32)) hinc11  (g := (mkF m 41 #[.val (.ref b), .val (.int 47)] [(.int 47), (.int 2), (.ref va)])) rfl rfl (hb hby d31_41)
  have V12 : Arv Z h12 va kv .byte (16 : Int32) [(.int y0), (.int y1), (.int 47), (.int y3)] (.int 0) := Arv.set Arc11 qc11 Sc11 Mc11 Hc11 Gc11 (fits_nar_byte _) W12 2 rfl (Nat.le_of_ble_eq_true rfl)
  have Z13 : n0 ≤ h12.size := Nat.le_trans Z8 (Nat.le_of_eq W12.size.symm)
  have K14 : Keep h0 h12 [b, va] := K9.wr W12 (Or.inl (List.mem_of_getElem? (i := 1) rfl))
  have N12 := Fr.snoc X12 N7 gx2
  obtain ⟨fsZ, hrZ, hrun, hended, hW, hsame⟩ := X12.leave (v := some (.ref b)) (fun h => by rw [Bd.returns] at h; cases h)
  have fa15 := ((F0.wr W7).wr W12)
  have fa16 := ((F1.other W7 (Or.inr (slot_ne (Or.inl (ow hw 56 rfl)) (Or.inl (ow hw 88 rfl)) (by decide) (t := (.array .byte)) (t' := .int) (by decide) (by decide)))).other W12 (Or.inl nx1))
  have fa17 := ((F2.other W7 (Or.inr (slot_ne (Or.inl (ow hw 58 rfl)) (Or.inl (ow hw 88 rfl)) (by decide) (t := .byte) (t' := .int) (by decide) (by decide)))).other W12 (Or.inl nx1))
  have fa18 := (fw7.other W12 (Or.inl nx1))
  refine ⟨_, _, pre0 _ ?_, hrun, hended, _, _, rfl, ?_, ⟨_, rfl⟩, hW, hsame.mono (by decide) (by decide)⟩
  · show Steps _ _ _ (s₁.setTop (mkF m 0 #[.val (.ref b), .val (.int 47)] [])) _
    refine XS.aloadN X0.here hx rfl (hb hby d31_0) rfl rfl ?_
    refine XS.aloadN X0.here hx rfl (hb hby d31_1) rfl rfl ?_
    show Steps _ _ _ (s₁.setTop (mkF m 2 #[.val (.ref b), .val (.int 47)] [(.ref b), (.ref b)])) _
    refine st1 _ ?_
    refine XS.iconst X1.here hx rfl (hb hby d31_5) ?_
    refine XS.iadd X1.here hx rfl (hb hby d31_6) rfl ?_
    show Steps _ _ _ (T1.setTop (mkF m 7 #[.val (.ref b), .val (.int 47)] [(.int ((2 : Int32) + (1 : Int32))), (.ref b)])) _
    rw [show ((2 : Int32) + (1 : Int32)) = (3 : Int32) from by decide]
    show Steps _ _ _ (T1.setTop (mkF m 7 #[.val (.ref b), .val (.int 47)] [(.int 3), (.ref b)])) _
    refine st2.trans ?_
    refine XS.aloadN X2.here hx rfl (hb hby d31_10) rfl rfl ?_
    show Steps _ _ _ (T2.setTop (mkF m 11 #[.val (.ref b), .val (.int 47)] [(.ref b)])) _
    refine st3.trans ?_
    refine XS.ifNo X3.here hx rfl (hb hby d31_14) rfl ((if0 _ _).trans (feq (by decide)).1) ?_
    refine XS.iloadN X3.here hx rfl (hb hby d31_17) rfl  ?_
    show Steps _ _ _ (T3.setTop (mkF m 18 #[.val (.ref b), .val (.int 47)] [(.int 47)])) _
    refine st4 _ ?_
    refine XS.ifNo X4.here hx rfl (hb hby d31_21) rfl ((if0 _ _).trans (feq (by decide)).1) ?_
    refine XS.aloadN X4.here hx rfl (hb hby d31_24) rfl rfl ?_
    show Steps _ _ _ (T4.setTop (mkF m 25 #[.val (.ref b), .val (.int 47)] [(.ref b)])) _
    refine st5 _ ?_
    refine XS.aloadN X5.here hx rfl (hb hby d31_28) rfl rfl ?_
    refine XS.dup X5.here hx rfl (hb hby d31_29) rfl rfl ?_
    show Steps _ _ _ (T5.setTop (mkF m 30 #[.val (.ref b), .val (.int 47)] [(.ref b), (.ref b), (.ref va)])) _
    refine st6 _ ?_
    refine XS.dupX1 X6.here hx rfl (hb hby d31_33) rfl rfl rfl ?_
    refine XS.iconst X6.here hx rfl (hb hby d31_34) ?_
    refine XS.iadd X6.here hx rfl (hb hby d31_35) rfl ?_
    show Steps _ _ _ (T6.setTop (mkF m 36 #[.val (.ref b), .val (.int 47)] [(.int ((2 : Int32) + (1 : Int32))), (.ref b), (.int 2), (.ref va)])) _
    rw [show ((2 : Int32) + (1 : Int32)) = (3 : Int32) from by decide]
    show Steps _ _ _ (T6.setTop (mkF m 36 #[.val (.ref b), .val (.int 47)] [(.int 3), (.ref b), (.int 2), (.ref va)])) _
    refine st7 _ ?_
    refine XS.iloadN X7.here hx rfl (hb hby d31_39) rfl  ?_
    refine XS.i2b X7.here hx rfl (hb hby d31_40) rfl ?_
    show Steps _ _ _ (T7.setTop (mkF m 41 #[.val (.ref b), .val (.int 47)] [(.int ((47 : Int32).toInt8.toInt32)), (.int 2), (.ref va)])) _
    rw [show ((47 : Int32).toInt8.toInt32) = (47 : Int32) from by decide]
    show Steps _ _ _ (T7.setTop (mkF m 41 #[.val (.ref b), .val (.int 47)] [(.int 47), (.int 2), (.ref va)])) _
    refine st12 _ ?_
    refine XS.goto X12.here hx rfl (pc0 := 42) (pc' := 75) rfl (hb hby d31_42) (by decide) (by decide) ?_
    refine XS.aloadN X12.here hx rfl (hb hby d31_75) rfl rfl ?_
    show Steps _ _ _ (T12.setTop (mkF m 76 #[.val (.ref b), .val (.int 47)] [(.ref b)])) _
    jvm_step X12.here [X12.here.top, hx, (hb hby d31_76), X12.method', Bd.returns, Value.isRef, FieldType.isReference]
    first | (intro acts; rw [hrZ _ acts rfl rfl rfl]) | rw [hrZ _ _ rfl rfl rfl]
    exact Steps.refl _
  · show Q31c2 Z b va kv y0 y1 y2 y3 cs h0 n0 _ T12.heap _
    rw [e12]
    exact ⟨rfl, N12, K14, fa15, fa16, fa17, fa18, V12⟩
theorem ef30c2 (m : MethodId) (b : Addr) : entryFrame m #[(.ref b), (.int 47)] 2 = mkF m 0 #[.val (.ref b), .val (.int 47)] [] := by first | (simp [entryFrame, mkF, argsToLocals, Value.category]; done) | rfl
def Q30c2 (Z : State) (b : Addr) (va : Addr) (kv : ClassId) (y0 : Int32) (y1 : Int32) (y2 : Int32) (y3 : Int32) (cs : Int32) (h0 : Heap) (n0 : Nat) (v : Option Value) (h : Heap) (L : List Loc) : Prop := v = some (.ref b) ∧ Fr n0 L ∧ Keep h0 h [b, va] ∧ Exa Z h b oB ∧ Fld Z h b oA "value" "[B" (.ref va) ∧ Fld Z h b oA "coder" "B" (.int 0) ∧ Fld Z h b oA "count" "I" (.int 3) ∧ Arv Z h va kv .byte (16 : Int32) [(.int y0), (.int y1), (.int 47), (.int y3)] (.int 0)
theorem rm30c2 (l : Launch) (Z : State) (a0 : Array Value) (hw : ∀ d ∈ tables_1, d.before a0 Z = true) (ws : List Jvm.Cond) (b : Addr) (va : Addr) (kv : ClassId) (y0 : Int32) (y1 : Int32) (y2 : Int32) (y3 : Int32) (cs : Int32) (h0 : Heap) (n0 : Nat) (Z0 : n0 ≤ h0.size) (F0 : Exa Z h0 b oB) (F1 : Fld Z h0 b oA "value" "[B" (.ref va)) (F2 : Fld Z h0 b oA "coder" "B" (.int 0)) (F3 : Fld Z h0 b oA "count" "I" (.int 2)) (F4 : Arv Z h0 va kv .byte (16 : Int32) [(.int y0), (.int y1), (.int y2), (.int y3)] (.int 0)) (gx1 : n0 ≤ b) (gx2 : n0 ≤ va) (nx1 : b ≠ va) (Cs : Sta Z Z.heap oS "COMPACT_STRINGS" "Z" (.int cs)) (hcs : ¬ (cs = (0 : Int32))) (Ox : Old Z n0 h0) :
    MetFree l oM13 (head1 (Jvm.Cond.code oM13 jdk_67_method_14_code 2 (some (.object oB)) :: ws) oR7) (fun a U => a = #[(.ref b), (.int 47)] ∧ Z.Warmed39 U.vm ∧ U.heap = h0) (fun _ _ _ _ _ => True) (fun _ U o U' => ∃ v L, o = .returned v ∧ Q30c2 Z b va kv y0 y1 y2 y3 cs h0 n0 v U'.heap L ∧ FrameEnd U o U' L oR7.cells oR7.slots) := by
  refine MetFree.of_bodySF (plainFor_of_name pn4) hisR ?_
  intro p e s m args below meth c s₁ Bd hml0 hP hK
  obtain ⟨rfl, hZ, hh⟩ := hP
  have hx := Bd.exec
  have hby := Bd.bytes
  have hml : c.maxLocals = 2 := hml0
  have hown : s.vm.findClass oB = some m.cls := findClass_of_methodNamed Bd.named
  have hnm := (name_of_methodNamed Bd.named Bd.method).1
  have X0 : Stand p l e oR7 s m #[(.ref b), (.int 47)] below meth c s₁ [] 0 0 := Stand.of_body Bd
  have e0 : s₁.heap = h0 := by rw [← hh, Bd.state]; rfl
  have N0 := Fr.nil n0
  have pre0 : ∀ tZ, Steps p.tables e below (s₁.setTop (mkF m 0 #[.val (.ref b), .val (.int 47)] [])) tZ → Steps p.tables e below (s₁.setTop (entryFrame m #[(.ref b), (.int 47)] 2)) tZ := fun tZ kZ => castTop (ef30c2 m b) kZ
  obtain ⟨_, _, ⟨T1, L1, k1, n1⟩, -, X1, ⟨Lc1, hQ1, l1, y1, z1⟩, st1⟩ := superBack X0 hx hZ (y := oM12) hown (ow hw 168 rfl) (own_same (ow hw 170 rfl) (ow hw 76 rfl) rfl (by decide)) (ow hw 169 rfl) (ow hw 85 rfl) (by decide) (backOf (W := 0) (rm31c2 l Z a0 hw [] b va kv y0 y1 y2 y3 cs h0 n0 Z0 F0 F1 F2 F3 F4 gx1 gx2 nx1 Cs (by first | assumption | decide | omega) Ox) hZ (ow hw 171 rfl) (ow hw 51 rfl) (by decide) (by decide)) e0 (Ins.self F0) (g := (mkF m 2 #[.val (.ref b), .val (.int 47)] [(.int 47), (.ref b)])) rfl (by rw [hml]; rfl) (ow hw 171 rfl) (argsL := [(.int 47)]) (rest := []) (lenOf pd7 rfl) rfl (Nat.le_of_eq rfl) (hb hby d30_2) (fun _ _ => ⟨rfl, e0, (by decide : 0 + 0 ≤ _), (by decide : 0 + 0 ≤ _)⟩)
  dsimp only [Pt.U, Pt.locs, Pt.cells, Pt.slots] at X1 l1 y1 z1 st1 hQ1
  subst l1 y1 z1
  obtain ⟨rfl, N1q, K1, f1_0, f1_1, f1_2, f1_3, f1_4⟩ := hQ1
  have N1 := Fr.app N0 N1q
  have Z2 : n0 ≤ T1.heap.size := Nat.le_trans Z0 K1.1
  have K3 : Keep h0 T1.heap [b, va] := (Keep.refl h0 [b, va]).trans K1 (allS (P := fun x => x ∈ _ ∨ _) (Or.inl (List.mem_of_getElem? (i := 0) rfl)) (allS (P := fun x => x ∈ _ ∨ _) (Or.inl (List.mem_of_getElem? (i := 1) rfl)) all0))
  obtain ⟨fsZ, hrZ, hrun, hended, hW, hsame⟩ := X1.leave (v := some (.ref b)) (fun h => by rw [Bd.returns] at h; cases h)
  refine ⟨_, _, pre0 _ ?_, hrun, hended, _, _, rfl, ?_, ⟨_, rfl⟩, hW, hsame.mono (by decide) (by decide)⟩
  · show Steps _ _ _ (s₁.setTop (mkF m 0 #[.val (.ref b), .val (.int 47)] [])) _
    refine XS.aloadN X0.here hx rfl (hb hby d30_0) rfl rfl ?_
    refine XS.iloadN X0.here hx rfl (hb hby d30_1) rfl  ?_
    show Steps _ _ _ (s₁.setTop (mkF m 2 #[.val (.ref b), .val (.int 47)] [(.int 47), (.ref b)])) _
    refine st1.trans ?_
    refine XS.pop X1.here hx rfl (hb hby d30_5) rfl rfl ?_
    refine XS.aloadN X1.here hx rfl (hb hby d30_6) rfl rfl ?_
    show Steps _ _ _ (T1.setTop (mkF m 7 #[.val (.ref b), .val (.int 47)] [(.ref b)])) _
    jvm_step X1.here [X1.here.top, hx, (hb hby d30_7), X1.method', Bd.returns, Value.isRef, FieldType.isReference]
    first | (intro acts; rw [hrZ _ acts rfl rfl rfl]) | rw [hrZ _ _ rfl rfl rfl]
    exact Steps.refl _
  · show Q30c2 Z b va kv y0 y1 y2 y3 cs h0 n0 _ T1.heap _
    exact ⟨rfl, N1, K3, f1_0, f1_1, f1_2, f1_3, f1_4⟩
theorem pn8 : plainName "java/lang/Integer" = true := by first | (simp [plainName, overriddenIn]; done) | decide +kernel
theorem d36_0 : decode jdk_33_method_13_code 0 = .ok (.iconst 1, 1) := by decide +kernel
theorem d36_1 : decode jdk_33_method_13_code 1 = .ok (.istore_n 1, 1) := by decide +kernel
theorem d36_2 : decode jdk_33_method_13_code 2 = .ok (.iload_n 0, 1) := by decide +kernel
theorem d36_3 : decode jdk_33_method_13_code 3 = .ok (.ifCond .lt 8, 3) := by decide +kernel
theorem d36_6 : decode jdk_33_method_13_code 6 = .ok (.iconst 0, 1) := by decide +kernel
theorem d36_7 : decode jdk_33_method_13_code 7 = .ok (.istore_n 1, 1) := by decide +kernel
theorem d36_8 : decode jdk_33_method_13_code 8 = .ok (.iload_n 0, 1) := by decide +kernel
theorem d36_9 : decode jdk_33_method_13_code 9 = .ok (.ineg, 1) := by decide +kernel
theorem d36_10 : decode jdk_33_method_13_code 10 = .ok (.istore_n 0, 1) := by decide +kernel
theorem d36_11 : decode jdk_33_method_13_code 11 = .ok (.bipush (-10), 2) := by decide +kernel
theorem d36_13 : decode jdk_33_method_13_code 13 = .ok (.istore_n 2, 1) := by decide +kernel
theorem d36_14 : decode jdk_33_method_13_code 14 = .ok (.iconst 1, 1) := by decide +kernel
theorem d36_15 : decode jdk_33_method_13_code 15 = .ok (.istore_n 3, 1) := by decide +kernel
theorem d36_16 : decode jdk_33_method_13_code 16 = .ok (.iload_n 3, 1) := by decide +kernel
theorem d36_17 : decode jdk_33_method_13_code 17 = .ok (.bipush 10, 2) := by decide +kernel
theorem d36_19 : decode jdk_33_method_13_code 19 = .ok (.if_icmp .ge 23, 3) := by decide +kernel
theorem d36_22 : decode jdk_33_method_13_code 22 = .ok (.iload_n 0, 1) := by decide +kernel
theorem d36_23 : decode jdk_33_method_13_code 23 = .ok (.iload_n 2, 1) := by decide +kernel
theorem d36_24 : decode jdk_33_method_13_code 24 = .ok (.if_icmp .le 7, 3) := by decide +kernel
theorem d36_27 : decode jdk_33_method_13_code 27 = .ok (.iload_n 3, 1) := by decide +kernel
theorem d36_28 : decode jdk_33_method_13_code 28 = .ok (.iload_n 1, 1) := by decide +kernel
theorem d36_29 : decode jdk_33_method_13_code 29 = .ok (.iadd, 1) := by decide +kernel
theorem d36_30 : decode jdk_33_method_13_code 30 = .ok (.ireturn, 1) := by decide +kernel
theorem ef36 (m : MethodId) (d0 : Int32) : entryFrame m #[(.int d0)] 4 = mkF m 0 #[.val (.int d0), .unset, .unset, .unset] [] := by first | (simp [entryFrame, mkF, argsToLocals, Value.category]; done) | rfl
def Q36 (Z : State) (d0 : Int32) (h0 : Heap) (n0 : Nat) (v : Option Value) (h : Heap) (L : List Loc) : Prop := v = some (.int 1) ∧ Fr n0 L ∧ h = h0
theorem rm36 (l : Launch) (Z : State) (a0 : Array Value) (hw : ∀ d ∈ tables_1, d.before a0 Z = true) (ws : List Jvm.Cond) (d0 : Int32) (h0 : Heap) (n0 : Nat) (Z0 : n0 ≤ h0.size) (hdd0 : d0 = (0 : Int32) ∨ d0 = (1 : Int32)) :
    MetFree l oM14 (head1 (Jvm.Cond.code oM14 jdk_33_method_13_code 4 (some .int) :: ws) oR1) (fun a U => a = #[(.int d0)] ∧ Z.Warmed39 U.vm ∧ U.heap = h0) (fun _ _ _ _ _ => True) (fun _ U o U' => ∃ v L, o = .returned v ∧ Q36 Z d0 h0 n0 v U'.heap L ∧ FrameEnd U o U' L oR1.cells oR1.slots) := by
  refine MetFree.of_bodySF (plainFor_of_name pn8) hisR ?_
  intro p e s m args below meth c s₁ Bd hml0 hP hK
  obtain ⟨rfl, hZ, hh⟩ := hP
  have hx := Bd.exec
  have hby := Bd.bytes
  have hml : c.maxLocals = 4 := hml0
  have hown : s.vm.findClass oI = some m.cls := findClass_of_methodNamed Bd.named
  have hnm := (name_of_methodNamed Bd.named Bd.method).1
  have X0 : Stand p l e oR1 s m #[(.int d0)] below meth c s₁ [] 0 0 := Stand.of_body Bd
  have e0 : s₁.heap = h0 := by rw [← hh, Bd.state]; rfl
  have N0 := Fr.nil n0
  have pre0 : ∀ tZ, Steps p.tables e below (s₁.setTop (mkF m 0 #[.val (.int d0), .unset, .unset, .unset] [])) tZ → Steps p.tables e below (s₁.setTop (entryFrame m #[(.int d0)] 4)) tZ := fun tZ kZ => castTop (ef36 m d0) kZ
  obtain ⟨fsZ, hrZ, hrun, hended, hW, hsame⟩ := X0.leave (v := some (.int 1)) (fun h => by rw [Bd.returns] at h; cases h)
  refine ⟨_, _, pre0 _ ?_, hrun, hended, _, _, rfl, ?_, ⟨_, rfl⟩, hW, hsame.mono (by decide) (by decide)⟩
  · show Steps _ _ _ (s₁.setTop (mkF m 0 #[.val (.int d0), .unset, .unset, .unset] [])) _
    refine XS.iconst X0.here hx rfl (hb hby d36_0) ?_
    refine XS.istoreN X0.here hx rfl (hb hby d36_1) rfl (l' := #[.val (.int d0), .val (.int 1), .unset, .unset]) rfl ?_
    refine XS.iloadN X0.here hx rfl (hb hby d36_2) rfl  ?_
    refine XS.ifNo X0.here hx rfl (hb hby d36_3) rfl ((if0 _ _).trans (flt (by rcases hdd0 with rfl | rfl <;> decide)).1) ?_
    refine XS.iconst X0.here hx rfl (hb hby d36_6) ?_
    refine XS.istoreN X0.here hx rfl (hb hby d36_7) rfl (l' := #[.val (.int d0), .val (.int 0), .unset, .unset]) rfl ?_
    refine XS.iloadN X0.here hx rfl (hb hby d36_8) rfl  ?_
    refine XS.ineg X0.here hx rfl (hb hby d36_9) rfl ?_
    show Steps _ _ _ (s₁.setTop (mkF m 10 #[.val (.int d0), .val (.int 0), .unset, .unset] [(.int (-d0))])) _
    refine XS.istoreN X0.here hx rfl (hb hby d36_10) rfl (l' := #[.val (.int (-d0)), .val (.int 0), .unset, .unset]) rfl ?_
    refine XS.bipush X0.here hx rfl (hb hby d36_11) ?_
    refine XS.istoreN X0.here hx rfl (hb hby d36_13) rfl (l' := #[.val (.int (-d0)), .val (.int 0), .val (.int (-10)), .unset]) rfl ?_
    refine XS.iconst X0.here hx rfl (hb hby d36_14) ?_
    refine XS.istoreN X0.here hx rfl (hb hby d36_15) rfl (l' := #[.val (.int (-d0)), .val (.int 0), .val (.int (-10)), .val (.int 1)]) rfl ?_
    refine XS.iloadN X0.here hx rfl (hb hby d36_16) rfl  ?_
    refine XS.bipush X0.here hx rfl (hb hby d36_17) ?_
    refine XS.icmpNo X0.here hx rfl (hb hby d36_19) rfl (tlt (by decide)).2.1 ?_
    show Steps _ _ _ (s₁.setTop (mkF m 22 #[.val (.int (-d0)), .val (.int 0), .val (.int (-10)), .val (.int 1)] [])) _
    refine XS.iloadN X0.here hx rfl (hb hby d36_22) rfl  ?_
    refine XS.iloadN X0.here hx rfl (hb hby d36_23) rfl  ?_
    refine XS.icmpNo X0.here hx rfl (hb hby d36_24) rfl (tlt (by rcases hdd0 with rfl | rfl <;> decide)).2.2.2 ?_
    refine XS.iloadN X0.here hx rfl (hb hby d36_27) rfl  ?_
    refine XS.iloadN X0.here hx rfl (hb hby d36_28) rfl  ?_
    refine XS.iadd X0.here hx rfl (hb hby d36_29) rfl ?_
    show Steps _ _ _ (s₁.setTop (mkF m 30 #[.val (.int (-d0)), .val (.int 0), .val (.int (-10)), .val (.int 1)] [(.int ((1 : Int32) + (0 : Int32)))])) _
    rw [show ((1 : Int32) + (0 : Int32)) = (1 : Int32) from by decide]
    show Steps _ _ _ (s₁.setTop (mkF m 30 #[.val (.int (-d0)), .val (.int 0), .val (.int (-10)), .val (.int 1)] [(.int 1)])) _
    exact retI X0 hx Bd.returns (hb hby d36_30) hrZ
  · show Q36 Z d0 h0 n0 _ s₁.heap _
    rw [e0]
    exact ⟨rfl, N0, rfl⟩
theorem d37_0 : decode jdk_33_method_12_code 0 = .ok (.iload_n 1, 1) := by decide +kernel
theorem d37_1 : decode jdk_33_method_12_code 1 = .ok (.istore 5, 2) := by decide +kernel
theorem d37_3 : decode jdk_33_method_12_code 3 = .ok (.iload_n 0, 1) := by decide +kernel
theorem d37_4 : decode jdk_33_method_12_code 4 = .ok (.ifCond .ge 7, 3) := by decide +kernel
theorem d37_11 : decode jdk_33_method_12_code 11 = .ok (.iconst 0, 1) := by decide +kernel
theorem d37_12 : decode jdk_33_method_12_code 12 = .ok (.istore 6, 2) := by decide +kernel
theorem d37_14 : decode jdk_33_method_12_code 14 = .ok (.iload 6, 2) := by decide +kernel
theorem d37_16 : decode jdk_33_method_12_code 16 = .ok (.ifCond .ne 6, 3) := by decide +kernel
theorem d37_19 : decode jdk_33_method_12_code 19 = .ok (.iload_n 0, 1) := by decide +kernel
theorem d37_20 : decode jdk_33_method_12_code 20 = .ok (.ineg, 1) := by decide +kernel
theorem d37_21 : decode jdk_33_method_12_code 21 = .ok (.istore_n 0, 1) := by decide +kernel
theorem d37_22 : decode jdk_33_method_12_code 22 = .ok (.iload_n 0, 1) := by decide +kernel
theorem d37_23 : decode jdk_33_method_12_code 23 = .ok (.bipush (-100), 2) := by decide +kernel
theorem d37_25 : decode jdk_33_method_12_code 25 = .ok (.if_icmp .gt 47, 3) := by decide +kernel
theorem d37_72 : decode jdk_33_method_12_code 72 = .ok (.aload_n 2, 1) := by decide +kernel
theorem d37_73 : decode jdk_33_method_12_code 73 = .ok (.iinc 5 (-1), 3) := by decide +kernel
theorem d37_76 : decode jdk_33_method_12_code 76 = .ok (.iload 5, 2) := by decide +kernel
theorem d37_78 : decode jdk_33_method_12_code 78 = .ok (.getstatic 83, 3) := by decide +kernel
theorem d37_81 : decode jdk_33_method_12_code 81 = .ok (.iload_n 0, 1) := by decide +kernel
theorem d37_82 : decode jdk_33_method_12_code 82 = .ok (.ineg, 1) := by decide +kernel
theorem d37_83 : decode jdk_33_method_12_code 83 = .ok (.baload, 1) := by decide +kernel
theorem d37_84 : decode jdk_33_method_12_code 84 = .ok (.bastore, 1) := by decide +kernel
theorem d37_85 : decode jdk_33_method_12_code 85 = .ok (.iload_n 0, 1) := by decide +kernel
theorem d37_86 : decode jdk_33_method_12_code 86 = .ok (.bipush (-9), 2) := by decide +kernel
theorem d37_88 : decode jdk_33_method_12_code 88 = .ok (.if_icmp .ge 16, 3) := by decide +kernel
theorem d37_104 : decode jdk_33_method_12_code 104 = .ok (.iload 6, 2) := by decide +kernel
theorem d37_106 : decode jdk_33_method_12_code 106 = .ok (.ifCond .eq 12, 3) := by decide +kernel
theorem d37_118 : decode jdk_33_method_12_code 118 = .ok (.iload 5, 2) := by decide +kernel
theorem d37_120 : decode jdk_33_method_12_code 120 = .ok (.ireturn, 1) := by decide +kernel
theorem ef37c1 (m : MethodId) (d0 : Int32) (va : Addr) : entryFrame m #[(.int d0), (.int 2), (.ref va)] 7 = mkF m 0 #[.val (.int d0), .val (.int 2), .val (.ref va), .unset, .unset, .unset, .unset] [] := by first | (simp [entryFrame, mkF, argsToLocals, Value.category]; done) | rfl
def Q37c1 (Z : State) (d0 : Int32) (va : Addr) (kv : ClassId) (y0 : Int32) (y1 : Int32) (y2 : Int32) (y3 : Int32) (da : Addr) (cd : Cell) (bz0 : Int32) (h0 : Heap) (n0 : Nat) (v : Option Value) (h : Heap) (L : List Loc) : Prop := v = some (.int 1) ∧ Fr n0 L ∧ Keep h0 h [va] ∧ Arv Z h va kv .byte (16 : Int32) [(.int y0), (.int bz0), (.int y2), (.int y3)] (.int 0)
theorem rm37c1 (l : Launch) (Z : State) (a0 : Array Value) (hw : ∀ d ∈ tables_1, d.before a0 Z = true) (ws : List Jvm.Cond) (d0 : Int32) (va : Addr) (kv : ClassId) (y0 : Int32) (y1 : Int32) (y2 : Int32) (y3 : Int32) (da : Addr) (cd : Cell) (bz0 : Int32) (h0 : Heap) (n0 : Nat) (Z0 : n0 ≤ h0.size) (Vx1 : Arv Z h0 va kv .byte (16 : Int32) [(.int y0), (.int y1), (.int y2), (.int y3)] (.int 0)) (gx2 : n0 ≤ va) (Ox : Old Z n0 h0) (Dd : Sta Z Z.heap oI "DigitOnes" "[B" (.ref da)) (Da : Arr Z Z.heap da cd .byte) (hds : cd.slots.size = 100) (hdd0 : d0 = (0 : Int32) ∨ d0 = (1 : Int32)) (hdx0 : cd.slots[d0.toNatClampNeg]? = some (.int bz0)) (hbn0 : (bz0.toInt8.toInt32) = bz0) :
    MetFree l oM15 (head1 (Jvm.Cond.code oM15 jdk_33_method_12_code 7 (some .int) :: ws) oR1) (fun a U => a = #[(.int d0), (.int 2), (.ref va)] ∧ Z.Warmed39 U.vm ∧ U.heap = h0) (fun _ _ _ _ _ => True) (fun _ U o U' => ∃ v L, o = .returned v ∧ Q37c1 Z d0 va kv y0 y1 y2 y3 da cd bz0 h0 n0 v U'.heap L ∧ FrameEnd U o U' L oR1.cells oR1.slots) := by
  refine MetFree.of_bodySF (plainFor_of_name pn8) hisR ?_
  intro p e s m args below meth c s₁ Bd hml0 hP hK
  obtain ⟨rfl, hZ, hh⟩ := hP
  have hx := Bd.exec
  have hby := Bd.bytes
  have hml : c.maxLocals = 7 := hml0
  have hown : s.vm.findClass oI = some m.cls := findClass_of_methodNamed Bd.named
  have hnm := (name_of_methodNamed Bd.named Bd.method).1
  have X0 : Stand p l e oR1 s m #[(.int d0), (.int 2), (.ref va)] below meth c s₁ [] 0 0 := Stand.of_body Bd
  have e0 : s₁.heap = h0 := by rw [← hh, Bd.state]; rfl
  have N0 := Fr.nil n0
  have pre0 : ∀ tZ, Steps p.tables e below (s₁.setTop (mkF m 0 #[.val (.int d0), .val (.int 2), .val (.ref va), .unset, .unset, .unset, .unset] [])) tZ → Steps p.tables e below (s₁.setTop (entryFrame m #[(.int d0), (.int 2), (.ref va)] 7)) tZ := fun tZ kZ => castTop (ef37c1 m d0 va) kZ
  obtain ⟨T1, X1, e1, st1⟩ := getS2 X0 hx hZ hown (host := "") (Or.inl (ow hw 197 rfl)) Via.refl e0 (Dd.ext Ox.2) (g := (mkF m 78 #[.val (.int (-d0)), .val (.int 2), .val (.ref va), .unset, .unset, .val (.int 1), .val (.int 0)] [(.int 1), (.ref va)])) rfl (hb hby d37_78)
  have hin : ¬ ((-(-d0)) < 0 ∨ cd.slots.size ≤ ((-(-d0))).toNatClampNeg) := by rw [hds]; rcases hdd0 with rfl | rfl <;> decide
  have hdy : cd.slots[((-(-d0))).toNatClampNeg]? = some (.int bz0) := by rw [Int32.neg_neg]; exact hdx0
  obtain ⟨c2, Arc2, qc2, Sc2, Mc2, Hc2, Gc2⟩ := id Vx1
  have hinc2 : ¬ ((1 : Int32) < 0 ∨ c2.slots.size ≤ ((1 : Int32)).toNatClampNeg) := inb_of Sc2 ⟨by decide, by decide⟩
  obtain ⟨T3, h3, X3, e3, W3, st3⟩ := stB X1 hx hZ e1 Arc2 (j := (1 : Int32)) hinc2  (g := (mkF m 84 #[.val (.int (-d0)), .val (.int 2), .val (.ref va), .unset, .unset, .val (.int 1), .val (.int 0)] [(.int bz0), (.int 1), (.ref va)])) rfl rfl (hb hby d37_84)
  have V3 : Arv Z h3 va kv .byte (16 : Int32) [(.int y0), (.int (bz0.toInt8.toInt32)), (.int y2), (.int y3)] (.int 0) := Arv.set Arc2 qc2 Sc2 Mc2 Hc2 Gc2 (fits_nar_byte _) W3 1 rfl (Nat.le_of_ble_eq_true rfl)
  have Z4 : n0 ≤ h3.size := Nat.le_trans Z0 (Nat.le_of_eq W3.size.symm)
  have K5 : Keep h0 h3 [va] := (Keep.refl h0 [va]).wr W3 (Or.inl (List.mem_of_getElem? (i := 0) rfl))
  have N3 := Fr.snoc X3 N0 gx2
  obtain ⟨fsZ, hrZ, hrun, hended, hW, hsame⟩ := X3.leave (v := some (.int 1)) (fun h => by rw [Bd.returns] at h; cases h)
  refine ⟨_, _, pre0 _ ?_, hrun, hended, _, _, rfl, ?_, ⟨_, rfl⟩, hW, hsame.mono (by decide) (by decide)⟩
  · show Steps _ _ _ (s₁.setTop (mkF m 0 #[.val (.int d0), .val (.int 2), .val (.ref va), .unset, .unset, .unset, .unset] [])) _
    refine XS.iloadN X0.here hx rfl (hb hby d37_0) rfl  ?_
    refine XS.istore X0.here hx rfl (hb hby d37_1) rfl (l' := #[.val (.int d0), .val (.int 2), .val (.ref va), .unset, .unset, .val (.int 2), .unset]) rfl ?_
    refine XS.iloadN X0.here hx rfl (hb hby d37_3) rfl  ?_
    refine XS.ifYes X0.here hx rfl (pc0 := 4) (pc' := 11) rfl (hb hby d37_4) rfl ((if0 _ _).trans (flt (by rcases hdd0 with rfl | rfl <;> decide)).2.1) (by decide) (by decide) ?_
    refine XS.iconst X0.here hx rfl (hb hby d37_11) ?_
    refine XS.istore X0.here hx rfl (hb hby d37_12) rfl (l' := #[.val (.int d0), .val (.int 2), .val (.ref va), .unset, .unset, .val (.int 2), .val (.int 0)]) rfl ?_
    refine XS.iload X0.here hx rfl (hb hby d37_14) rfl  ?_
    refine XS.ifNo X0.here hx rfl (hb hby d37_16) rfl ((if0 _ _).trans (teq (by decide)).2) ?_
    show Steps _ _ _ (s₁.setTop (mkF m 19 #[.val (.int d0), .val (.int 2), .val (.ref va), .unset, .unset, .val (.int 2), .val (.int 0)] [])) _
    refine XS.iloadN X0.here hx rfl (hb hby d37_19) rfl  ?_
    refine XS.ineg X0.here hx rfl (hb hby d37_20) rfl ?_
    refine XS.istoreN X0.here hx rfl (hb hby d37_21) rfl (l' := #[.val (.int (-d0)), .val (.int 2), .val (.ref va), .unset, .unset, .val (.int 2), .val (.int 0)]) rfl ?_
    refine XS.iloadN X0.here hx rfl (hb hby d37_22) rfl  ?_
    refine XS.bipush X0.here hx rfl (hb hby d37_23) ?_
    refine XS.icmpYes X0.here hx rfl (pc0 := 25) (pc' := 72) rfl (hb hby d37_25) rfl (tlt (by rcases hdd0 with rfl | rfl <;> decide)).2.2.1 (by decide) (by decide) ?_
    refine XS.aloadN X0.here hx rfl (hb hby d37_72) rfl rfl ?_
    refine XS.iinc X0.here hx rfl (hb hby d37_73) rfl (l' := #[.val (.int (-d0)), .val (.int 2), .val (.ref va), .unset, .unset, .val (.int ((2 : Int32) + (-1 : Int32))), .val (.int 0)]) rfl ?_
    show Steps _ _ _ (s₁.setTop (mkF m 76 #[.val (.int (-d0)), .val (.int 2), .val (.ref va), .unset, .unset, .val (.int ((2 : Int32) + (-1 : Int32))), .val (.int 0)] [(.ref va)])) _
    rw [show ((2 : Int32) + (-1 : Int32)) = (1 : Int32) from by decide]
    show Steps _ _ _ (s₁.setTop (mkF m 76 #[.val (.int (-d0)), .val (.int 2), .val (.ref va), .unset, .unset, .val (.int 1), .val (.int 0)] [(.ref va)])) _
    refine XS.iload X0.here hx rfl (hb hby d37_76) rfl  ?_
    show Steps _ _ _ (s₁.setTop (mkF m 78 #[.val (.int (-d0)), .val (.int 2), .val (.ref va), .unset, .unset, .val (.int 1), .val (.int 0)] [(.int 1), (.ref va)])) _
    refine st1 _ ?_
    refine XS.iloadN X1.here hx rfl (hb hby d37_81) rfl  ?_
    refine XS.ineg X1.here hx rfl (hb hby d37_82) rfl ?_
    show Steps _ _ _ (T1.setTop (mkF m 83 #[.val (.int (-d0)), .val (.int 2), .val (.ref va), .unset, .unset, .val (.int 1), .val (.int 0)] [(.int (-(-d0))), (.ref da), (.int 1), (.ref va)])) _
    refine X1.baloadBytes hx (j := (-(-d0))) (v := .int bz0) (by rw [e1]; exact (Da.ext Ox.2).1) (State.isArrayOf_alike hZ.alike Da.2.1) Da.2.2 hin hdy (g := (mkF m 83 #[.val (.int (-d0)), .val (.int 2), .val (.ref va), .unset, .unset, .val (.int 1), .val (.int 0)] [(.int (-(-d0))), (.ref da), (.int 1), (.ref va)])) rfl rfl (hb hby d37_83) _ ?_
    show Steps _ _ _ (T1.setTop (mkF m 84 #[.val (.int (-d0)), .val (.int 2), .val (.ref va), .unset, .unset, .val (.int 1), .val (.int 0)] [(.int bz0), (.int 1), (.ref va)])) _
    refine st3 _ ?_
    refine XS.iloadN X3.here hx rfl (hb hby d37_85) rfl  ?_
    refine XS.bipush X3.here hx rfl (hb hby d37_86) ?_
    refine XS.icmpYes X3.here hx rfl (pc0 := 88) (pc' := 104) rfl (hb hby d37_88) rfl (flt (by rcases hdd0 with rfl | rfl <;> decide)).2.1 (by decide) (by decide) ?_
    refine XS.iload X3.here hx rfl (hb hby d37_104) rfl  ?_
    refine XS.ifYes X3.here hx rfl (pc0 := 106) (pc' := 118) rfl (hb hby d37_106) rfl ((if0 _ _).trans (teq (by decide)).1) (by decide) (by decide) ?_
    refine XS.iload X3.here hx rfl (hb hby d37_118) rfl  ?_
    show Steps _ _ _ (T3.setTop (mkF m 120 #[.val (.int (-d0)), .val (.int 2), .val (.ref va), .unset, .unset, .val (.int 1), .val (.int 0)] [(.int 1)])) _
    exact retI X3 hx Bd.returns (hb hby d37_120) hrZ
  · show Q37c1 Z d0 va kv y0 y1 y2 y3 da cd bz0 h0 n0 _ T3.heap _
    rw [e3]
    exact ⟨rfl, N3, K5, (by have q := V3; simp only [hbn0] at q; exact q)⟩
theorem d35_0 : decode jdk_68_method_32_code 0 = .ok (.aload_n 0, 1) := by decide +kernel
theorem d35_1 : decode jdk_68_method_32_code 1 = .ok (.getfield 79, 3) := by decide +kernel
theorem d35_4 : decode jdk_68_method_32_code 4 = .ok (.istore_n 2, 1) := by decide +kernel
theorem d35_5 : decode jdk_68_method_32_code 5 = .ok (.iload_n 2, 1) := by decide +kernel
theorem d35_6 : decode jdk_68_method_32_code 6 = .ok (.iload_n 1, 1) := by decide +kernel
theorem d35_7 : decode jdk_68_method_32_code 7 = .ok (.invokestatic 245, 3) := by decide +kernel
theorem pd9 : parseMethodDescriptor "(I)I" = some ⟨[.int], some .int⟩ := by decide +kernel
theorem d35_10 : decode jdk_68_method_32_code 10 = .ok (.iadd, 1) := by decide +kernel
theorem d35_11 : decode jdk_68_method_32_code 11 = .ok (.istore_n 3, 1) := by decide +kernel
theorem d35_12 : decode jdk_68_method_32_code 12 = .ok (.aload_n 0, 1) := by decide +kernel
theorem d35_13 : decode jdk_68_method_32_code 13 = .ok (.iload_n 3, 1) := by decide +kernel
theorem d35_14 : decode jdk_68_method_32_code 14 = .ok (.invokevirtual 100, 3) := by decide +kernel
theorem d35_17 : decode jdk_68_method_32_code 17 = .ok (.aload_n 0, 1) := by decide +kernel
theorem d35_18 : decode jdk_68_method_32_code 18 = .ok (.invokevirtual 83, 3) := by decide +kernel
theorem d35_21 : decode jdk_68_method_32_code 21 = .ok (.ifCond .eq 16, 3) := by decide +kernel
theorem d35_24 : decode jdk_68_method_32_code 24 = .ok (.iload_n 1, 1) := by decide +kernel
theorem d35_25 : decode jdk_68_method_32_code 25 = .ok (.iload_n 3, 1) := by decide +kernel
theorem d35_26 : decode jdk_68_method_32_code 26 = .ok (.aload_n 0, 1) := by decide +kernel
theorem d35_27 : decode jdk_68_method_32_code 27 = .ok (.getfield 15, 3) := by decide +kernel
theorem d35_30 : decode jdk_68_method_32_code 30 = .ok (.invokestatic 248, 3) := by decide +kernel
theorem pd10 : parseMethodDescriptor "(II[B)I" = some ⟨[.int, .int, (.array .byte)], some .int⟩ := by decide +kernel
theorem d35_33 : decode jdk_68_method_32_code 33 = .ok (.pop, 1) := by decide +kernel
theorem d35_34 : decode jdk_68_method_32_code 34 = .ok (.goto 14, 3) := by decide +kernel
theorem d35_48 : decode jdk_68_method_32_code 48 = .ok (.aload_n 0, 1) := by decide +kernel
theorem d35_49 : decode jdk_68_method_32_code 49 = .ok (.iload_n 3, 1) := by decide +kernel
theorem d35_50 : decode jdk_68_method_32_code 50 = .ok (.putfield 79, 3) := by decide +kernel
theorem d35_53 : decode jdk_68_method_32_code 53 = .ok (.aload_n 0, 1) := by decide +kernel
theorem d35_54 : decode jdk_68_method_32_code 54 = .ok (.areturn, 1) := by decide +kernel
theorem ef35c1 (m : MethodId) (b : Addr) (d0 : Int32) : entryFrame m #[(.ref b), (.int d0)] 4 = mkF m 0 #[.val (.ref b), .val (.int d0), .unset, .unset] [] := by first | (simp [entryFrame, mkF, argsToLocals, Value.category]; done) | rfl
def Q35c1 (Z : State) (b : Addr) (d0 : Int32) (va : Addr) (kv : ClassId) (y0 : Int32) (y1 : Int32) (y2 : Int32) (y3 : Int32) (cs : Int32) (da : Addr) (cd : Cell) (bz0 : Int32) (h0 : Heap) (n0 : Nat) (v : Option Value) (h : Heap) (L : List Loc) : Prop := v = some (.ref b) ∧ Fr n0 L ∧ Keep h0 h [b, va] ∧ Exa Z h b oB ∧ Fld Z h b oA "value" "[B" (.ref va) ∧ Fld Z h b oA "coder" "B" (.int 0) ∧ Fld Z h b oA "count" "I" (.int 2) ∧ Arv Z h va kv .byte (16 : Int32) [(.int y0), (.int bz0), (.int y2), (.int y3)] (.int 0)
theorem rm35c1 (l : Launch) (Z : State) (a0 : Array Value) (hw : ∀ d ∈ tables_1, d.before a0 Z = true) (ws : List Jvm.Cond) (b : Addr) (d0 : Int32) (va : Addr) (kv : ClassId) (y0 : Int32) (y1 : Int32) (y2 : Int32) (y3 : Int32) (cs : Int32) (da : Addr) (cd : Cell) (bz0 : Int32) (h0 : Heap) (n0 : Nat) (Z0 : n0 ≤ h0.size) (F0 : Exa Z h0 b oB) (F1 : Fld Z h0 b oA "value" "[B" (.ref va)) (F2 : Fld Z h0 b oA "coder" "B" (.int 0)) (F3 : Fld Z h0 b oA "count" "I" (.int 1)) (F4 : Arv Z h0 va kv .byte (16 : Int32) [(.int y0), (.int y1), (.int y2), (.int y3)] (.int 0)) (gx1 : n0 ≤ b) (gx2 : n0 ≤ va) (nx1 : b ≠ va) (Cs : Sta Z Z.heap oS "COMPACT_STRINGS" "Z" (.int cs)) (hcs : ¬ (cs = (0 : Int32))) (Ox : Old Z n0 h0) (Dd : Sta Z Z.heap oI "DigitOnes" "[B" (.ref da)) (Da : Arr Z Z.heap da cd .byte) (hds : cd.slots.size = 100) (hdd0 : d0 = (0 : Int32) ∨ d0 = (1 : Int32)) (hdx0 : cd.slots[d0.toNatClampNeg]? = some (.int bz0)) (hbn0 : (bz0.toInt8.toInt32) = bz0) :
    MetFree l oM16 (head1 (Jvm.Cond.code oM16 jdk_68_method_32_code 4 (some (.object oA)) :: ws) oR8) (fun a U => a = #[(.ref b), (.int d0)] ∧ Z.Warmed39 U.vm ∧ U.heap = h0) (fun _ _ _ _ _ => True) (fun _ U o U' => ∃ v L, o = .returned v ∧ Q35c1 Z b d0 va kv y0 y1 y2 y3 cs da cd bz0 h0 n0 v U'.heap L ∧ FrameEnd U o U' L oR8.cells oR8.slots) := by
  refine MetFree.of_bodySF (plainFor_of_name pn3) hisR ?_
  intro p e s m args below meth c s₁ Bd hml0 hP hK
  obtain ⟨rfl, hZ, hh⟩ := hP
  have hx := Bd.exec
  have hby := Bd.bytes
  have hml : c.maxLocals = 4 := hml0
  have hown : s.vm.findClass oA = some m.cls := findClass_of_methodNamed Bd.named
  have hnm := (name_of_methodNamed Bd.named Bd.method).1
  have X0 : Stand p l e oR8 s m #[(.ref b), (.int d0)] below meth c s₁ [] 0 0 := Stand.of_body Bd
  have e0 : s₁.heap = h0 := by rw [← hh, Bd.state]; rfl
  have N0 := Fr.nil n0
  have pre0 : ∀ tZ, Steps p.tables e below (s₁.setTop (mkF m 0 #[.val (.ref b), .val (.int d0), .unset, .unset] [])) tZ → Steps p.tables e below (s₁.setTop (entryFrame m #[(.ref b), (.int d0)] 4)) tZ := fun tZ kZ => castTop (ef35c1 m b d0) kZ
  obtain ⟨T1, X1, e1, st1⟩ := getF X0 hx hZ hown (host := "") (Or.inl (ow hw 87 rfl)) Via.refl e0 F3 (g := (mkF m 1 #[.val (.ref b), .val (.int d0), .unset, .unset] [(.ref b)])) rfl rfl (hb hby d35_1)
  obtain ⟨_, _, ⟨T2, L2, k2, n2⟩, -, X2, ⟨Lc2, hQ2, l2, y2, z2⟩, st2⟩ := Jvm.LawKit.callS X1 hx (y := oM14) hown (mvT hZ (ow hw 190 rfl)) (mvT hZ (ow hw 191 rfl)) (mvT hZ (ow hw 192 rfl)) (mvT hZ (ow hw 193 rfl)) (by decide) (backOf (W := 1) (rm36 l Z a0 hw [] d0 h0 n0 Z0 (by first | assumption | decide | omega)) hZ (ow hw 193 rfl) (ow hw 192 rfl) (by decide) (by decide)) (g := (mkF m 7 #[.val (.ref b), .val (.int d0), .val (.int 1), .unset] [(.int d0), (.int 1)])) rfl (by rw [hml]; rfl) (argsL := [(.int d0)]) (rest := [(.int 1)]) (lenOf pd9 rfl) rfl (Nat.le_of_eq rfl) (hb hby d35_7) (fun _ _ => ⟨rfl, e1, (by decide : 0 + 0 ≤ _), (by decide : 0 + 0 ≤ _)⟩)
  dsimp only [Pt.U, Pt.locs, Pt.cells, Pt.slots] at X2 l2 y2 z2 st2 hQ2
  subst l2 y2 z2
  obtain ⟨rfl, N2q, e2⟩ := hQ2
  have N2 := Fr.app N0 N2q
  obtain ⟨cq3, q3, q3'⟩ := F0.cell
  obtain ⟨_, _, ⟨T3, L3, k3, n3⟩, -, X3, ⟨Lc3, hQ3, l3, y3, z3⟩, st3⟩ := X2.privateBack hx (y := oM11) hown (mvT hZ (ow hw 172 rfl)) (mvT hZ (ow hw 173 rfl)) (own_selN hZ (notFace_of_selects (args := #[]) (mvT hZ (ow hw 175 rfl))) (ow hw 174 rfl) (ow hw 173 rfl) (by decide)) (Cond.privateMethod_at (mvP hZ (ow hw 174 rfl) (args := #[]))) (mvT hZ (ow hw 176 rfl)) (by decide) (backOf (W := 0) (rm32 l Z a0 hw [] b (2 : Int32) va kv y0 y1 y2 y3 h0 n0 Z0 F0 F1 F2 F4 (by first | assumption | decide | omega)) hZ (ow hw 176 rfl) (ow hw 51 rfl) (by decide) (by decide)) (g := (mkF m 14 #[.val (.ref b), .val (.int d0), .val (.int 1), .val (.int 2)] [(.int 2), (.ref b)])) rfl (by rw [hml]; rfl) (Steps.refl _) (a := b) (by rw [e2]; exact q3) q3' (argsL := [(.int 2)]) (rest := []) (lenOf pd1 rfl) rfl (Nat.le_of_eq rfl) (hb hby d35_14) (fun _ _ => ⟨rfl, e2, (by decide : 0 + 0 ≤ _), (by decide : 0 + 0 ≤ _)⟩)
  dsimp only [Pt.U, Pt.locs, Pt.cells, Pt.slots] at X3 l3 y3 z3 st3 hQ3
  subst l3 y3 z3
  obtain ⟨rfl, N3q, e3⟩ := hQ3
  have N3 := Fr.app N2 N3q
  obtain ⟨cq4, kq4, q4a, q4b, q4c⟩ := isOf hZ e3 F0
  obtain ⟨_, _, ⟨T4, L4, k4, n4⟩, -, X4, ⟨Lc4, hQ4, l4, y4, z4⟩, st4⟩ := X3.virtualBack hx (y := oM9) (z := oM9) hown (mvT hZ (ow hw 177 rfl)) (mvT hZ (ow hw 90 rfl)) (notFace_of_selects (args := #[]) (mvT hZ (ow hw 92 rfl))) (mvT hZ (ow hw 92 rfl)) (mvT hZ (ow hw 91 rfl)) (by decide) (backOf (W := 0) (rm14 l Z a0 hw [] b cs h0 n0 Z0 F2 Cs (by first | assumption | decide | omega) Ox) hZ (ow hw 93 rfl) (ow hw 51 rfl) (by decide) (by decide)) q4a q4c (g := (mkF m 18 #[.val (.ref b), .val (.int d0), .val (.int 1), .val (.int 2)] [(.ref b)])) rfl (by rw [hml]; rfl) (Steps.refl _) (argsL := []) (rest := []) (lenOf pd2 rfl) rfl (Nat.le_of_eq rfl) (hb hby d35_18) (fun _ _ => ⟨rfl, e3, (by decide : 0 + 0 ≤ _), (by decide : 0 + 0 ≤ _)⟩)
  dsimp only [Pt.U, Pt.locs, Pt.cells, Pt.slots] at X4 l4 y4 z4 st4 hQ4
  subst l4 y4 z4
  obtain ⟨rfl, N4q, e4⟩ := hQ4
  have N4 := Fr.app N3 N4q
  obtain ⟨T5, X5, e5, st5⟩ := getF X4 hx hZ hown (host := "") (Or.inl (ow hw 55 rfl)) Via.refl e4 F1 (g := (mkF m 27 #[.val (.ref b), .val (.int d0), .val (.int 1), .val (.int 2)] [(.ref b), (.int 2), (.int d0)])) rfl rfl (hb hby d35_27)
  obtain ⟨_, _, ⟨T6, L6, k6, n6⟩, -, X6, ⟨Lc6, hQ6, l6, y6, z6⟩, st6⟩ := Jvm.LawKit.callS X5 hx (y := oM15) hown (mvT hZ (ow hw 194 rfl)) (mvT hZ (ow hw 195 rfl)) (mvT hZ (ow hw 192 rfl)) (mvT hZ (ow hw 196 rfl)) (by decide) (backOf (W := 0) (rm37c1 l Z a0 hw [] d0 va kv y0 y1 y2 y3 da cd bz0 h0 n0 Z0 F4 gx2 Ox Dd Da (by first | assumption | decide | omega) (by first | assumption | decide | omega) (by first | assumption | decide | omega) (by first | assumption | decide | omega)) hZ (ow hw 196 rfl) (ow hw 192 rfl) (by decide) (by decide)) (g := (mkF m 30 #[.val (.ref b), .val (.int d0), .val (.int 1), .val (.int 2)] [(.ref va), (.int 2), (.int d0)])) rfl (by rw [hml]; rfl) (argsL := [(.int d0), (.int 2), (.ref va)]) (rest := []) (lenOf pd10 rfl) rfl (Nat.le_of_eq rfl) (hb hby d35_30) (fun _ _ => ⟨rfl, e5, (by decide : 0 + 0 ≤ _), (by decide : 0 + 0 ≤ _)⟩)
  dsimp only [Pt.U, Pt.locs, Pt.cells, Pt.slots] at X6 l6 y6 z6 st6 hQ6
  subst l6 y6 z6
  obtain ⟨rfl, N6q, K6, f6_0⟩ := hQ6
  have N6 := Fr.app N4 N6q
  have Z7 : n0 ≤ T6.heap.size := Nat.le_trans Z0 K6.1
  have K8 : Keep h0 T6.heap [b, va] := (Keep.refl h0 [b, va]).trans K6 (allS (P := fun x => x ∈ _ ∨ _) (Or.inl (List.mem_of_getElem? (i := 1) rfl)) all0)
  have fa9 := (F3.keep K6 (ninS nx1 nin0))
  have fa10 := (F0.keep K6)
  obtain ⟨T11, h11, X11, e11, W11, st11⟩ := putF X6 hx hZ hown (host := "") (Or.inl (ow hw 87 rfl)) Via.refl rfl fa9 fa10 (Or.inl (ow hw 88 rfl)) (ow hw 42 rfl) (ty := .int) (by decide) rfl rfl (g := (mkF m 50 #[.val (.ref b), .val (.int d0), .val (.int 1), .val (.int 2)] [(.int 2), (.ref b)])) rfl rfl (hb hby d35_50)
  have fw11 : Fld Z h11 b oA "count" "I" (.int 2) := fa9.same W11
  have Z12 : n0 ≤ h11.size := Nat.le_trans Z7 (Nat.le_of_eq W11.size.symm)
  have K13 : Keep h0 h11 [b, va] := K8.wr W11 (Or.inl (List.mem_of_getElem? (i := 0) rfl))
  have N11 := Fr.snoc X11 N6 gx1
  obtain ⟨fsZ, hrZ, hrun, hended, hW, hsame⟩ := X11.leave (v := some (.ref b)) (fun h => by rw [Bd.returns] at h; cases h)
  have fa14 := (fa10.wr W11)
  have fa15 := ((F1.keep K6 (ninS nx1 nin0)).other W11 (Or.inr (slot_ne (Or.inl (ow hw 56 rfl)) (Or.inl (ow hw 88 rfl)) (by decide) (t := (.array .byte)) (t' := .int) (by decide) (by decide))))
  have fa16 := ((F2.keep K6 (ninS nx1 nin0)).other W11 (Or.inr (slot_ne (Or.inl (ow hw 58 rfl)) (Or.inl (ow hw 88 rfl)) (by decide) (t := .byte) (t' := .int) (by decide) (by decide))))
  have fa17 := (f6_0.other W11 (Ne.symm nx1))
  refine ⟨_, _, pre0 _ ?_, hrun, hended, _, _, rfl, ?_, ⟨_, rfl⟩, hW, hsame.mono (by decide) (by decide)⟩
  · show Steps _ _ _ (s₁.setTop (mkF m 0 #[.val (.ref b), .val (.int d0), .unset, .unset] [])) _
    refine XS.aloadN X0.here hx rfl (hb hby d35_0) rfl rfl ?_
    show Steps _ _ _ (s₁.setTop (mkF m 1 #[.val (.ref b), .val (.int d0), .unset, .unset] [(.ref b)])) _
    refine st1 _ ?_
    refine XS.istoreN X1.here hx rfl (hb hby d35_4) rfl (l' := #[.val (.ref b), .val (.int d0), .val (.int 1), .unset]) rfl ?_
    refine XS.iloadN X1.here hx rfl (hb hby d35_5) rfl  ?_
    refine XS.iloadN X1.here hx rfl (hb hby d35_6) rfl  ?_
    show Steps _ _ _ (T1.setTop (mkF m 7 #[.val (.ref b), .val (.int d0), .val (.int 1), .unset] [(.int d0), (.int 1)])) _
    refine st2 _ ?_
    refine XS.iadd X2.here hx rfl (hb hby d35_10) rfl ?_
    show Steps _ _ _ (T2.setTop (mkF m 11 #[.val (.ref b), .val (.int d0), .val (.int 1), .unset] [(.int ((1 : Int32) + (1 : Int32)))])) _
    rw [show ((1 : Int32) + (1 : Int32)) = (2 : Int32) from by decide]
    show Steps _ _ _ (T2.setTop (mkF m 11 #[.val (.ref b), .val (.int d0), .val (.int 1), .unset] [(.int 2)])) _
    refine XS.istoreN X2.here hx rfl (hb hby d35_11) rfl (l' := #[.val (.ref b), .val (.int d0), .val (.int 1), .val (.int 2)]) rfl ?_
    refine XS.aloadN X2.here hx rfl (hb hby d35_12) rfl rfl ?_
    refine XS.iloadN X2.here hx rfl (hb hby d35_13) rfl  ?_
    show Steps _ _ _ (T2.setTop (mkF m 14 #[.val (.ref b), .val (.int d0), .val (.int 1), .val (.int 2)] [(.int 2), (.ref b)])) _
    refine st3.trans ?_
    refine XS.aloadN X3.here hx rfl (hb hby d35_17) rfl rfl ?_
    show Steps _ _ _ (T3.setTop (mkF m 18 #[.val (.ref b), .val (.int d0), .val (.int 1), .val (.int 2)] [(.ref b)])) _
    refine st4.trans ?_
    refine XS.ifNo X4.here hx rfl (hb hby d35_21) rfl ((if0 _ _).trans (feq (by decide)).1) ?_
    refine XS.iloadN X4.here hx rfl (hb hby d35_24) rfl  ?_
    refine XS.iloadN X4.here hx rfl (hb hby d35_25) rfl  ?_
    refine XS.aloadN X4.here hx rfl (hb hby d35_26) rfl rfl ?_
    show Steps _ _ _ (T4.setTop (mkF m 27 #[.val (.ref b), .val (.int d0), .val (.int 1), .val (.int 2)] [(.ref b), (.int 2), (.int d0)])) _
    refine st5 _ ?_
    show Steps _ _ _ (T5.setTop (mkF m 30 #[.val (.ref b), .val (.int d0), .val (.int 1), .val (.int 2)] [(.ref va), (.int 2), (.int d0)])) _
    refine st6 _ ?_
    refine XS.pop X6.here hx rfl (hb hby d35_33) rfl rfl ?_
    refine XS.goto X6.here hx rfl (pc0 := 34) (pc' := 48) rfl (hb hby d35_34) (by decide) (by decide) ?_
    refine XS.aloadN X6.here hx rfl (hb hby d35_48) rfl rfl ?_
    refine XS.iloadN X6.here hx rfl (hb hby d35_49) rfl  ?_
    show Steps _ _ _ (T6.setTop (mkF m 50 #[.val (.ref b), .val (.int d0), .val (.int 1), .val (.int 2)] [(.int 2), (.ref b)])) _
    refine st11 _ ?_
    refine XS.aloadN X11.here hx rfl (hb hby d35_53) rfl rfl ?_
    show Steps _ _ _ (T11.setTop (mkF m 54 #[.val (.ref b), .val (.int d0), .val (.int 1), .val (.int 2)] [(.ref b)])) _
    jvm_step X11.here [X11.here.top, hx, (hb hby d35_54), X11.method', Bd.returns, Value.isRef, FieldType.isReference]
    first | (intro acts; rw [hrZ _ acts rfl rfl rfl]) | rw [hrZ _ _ rfl rfl rfl]
    exact Steps.refl _
  · show Q35c1 Z b d0 va kv y0 y1 y2 y3 cs da cd bz0 h0 n0 _ T11.heap _
    rw [e11]
    exact ⟨rfl, N11, K13, fa14, fa15, fa16, fw11, fa17⟩
theorem d34_0 : decode jdk_67_method_15_code 0 = .ok (.aload_n 0, 1) := by decide +kernel
theorem d34_1 : decode jdk_67_method_15_code 1 = .ok (.iload_n 1, 1) := by decide +kernel
theorem d34_2 : decode jdk_67_method_15_code 2 = .ok (.invokespecial 53, 3) := by decide +kernel
theorem pd11 : parseMethodDescriptor "(I)Ljava/lang/AbstractStringBuilder;" = some ⟨[.int], some (.object oA)⟩ := by decide +kernel
theorem d34_5 : decode jdk_67_method_15_code 5 = .ok (.pop, 1) := by decide +kernel
theorem d34_6 : decode jdk_67_method_15_code 6 = .ok (.aload_n 0, 1) := by decide +kernel
theorem d34_7 : decode jdk_67_method_15_code 7 = .ok (.areturn, 1) := by decide +kernel
theorem ef34c1 (m : MethodId) (b : Addr) (d0 : Int32) : entryFrame m #[(.ref b), (.int d0)] 2 = mkF m 0 #[.val (.ref b), .val (.int d0)] [] := by first | (simp [entryFrame, mkF, argsToLocals, Value.category]; done) | rfl
def Q34c1 (Z : State) (b : Addr) (d0 : Int32) (va : Addr) (kv : ClassId) (y0 : Int32) (y1 : Int32) (y2 : Int32) (y3 : Int32) (cs : Int32) (da : Addr) (cd : Cell) (bz0 : Int32) (h0 : Heap) (n0 : Nat) (v : Option Value) (h : Heap) (L : List Loc) : Prop := v = some (.ref b) ∧ Fr n0 L ∧ Keep h0 h [b, va] ∧ Exa Z h b oB ∧ Fld Z h b oA "value" "[B" (.ref va) ∧ Fld Z h b oA "coder" "B" (.int 0) ∧ Fld Z h b oA "count" "I" (.int 2) ∧ Arv Z h va kv .byte (16 : Int32) [(.int y0), (.int bz0), (.int y2), (.int y3)] (.int 0)
theorem rm34c1 (l : Launch) (Z : State) (a0 : Array Value) (hw : ∀ d ∈ tables_1, d.before a0 Z = true) (ws : List Jvm.Cond) (b : Addr) (d0 : Int32) (va : Addr) (kv : ClassId) (y0 : Int32) (y1 : Int32) (y2 : Int32) (y3 : Int32) (cs : Int32) (da : Addr) (cd : Cell) (bz0 : Int32) (h0 : Heap) (n0 : Nat) (Z0 : n0 ≤ h0.size) (F0 : Exa Z h0 b oB) (F1 : Fld Z h0 b oA "value" "[B" (.ref va)) (F2 : Fld Z h0 b oA "coder" "B" (.int 0)) (F3 : Fld Z h0 b oA "count" "I" (.int 1)) (F4 : Arv Z h0 va kv .byte (16 : Int32) [(.int y0), (.int y1), (.int y2), (.int y3)] (.int 0)) (gx1 : n0 ≤ b) (gx2 : n0 ≤ va) (nx1 : b ≠ va) (Cs : Sta Z Z.heap oS "COMPACT_STRINGS" "Z" (.int cs)) (hcs : ¬ (cs = (0 : Int32))) (Ox : Old Z n0 h0) (Dd : Sta Z Z.heap oI "DigitOnes" "[B" (.ref da)) (Da : Arr Z Z.heap da cd .byte) (hds : cd.slots.size = 100) (hdd0 : d0 = (0 : Int32) ∨ d0 = (1 : Int32)) (hdx0 : cd.slots[d0.toNatClampNeg]? = some (.int bz0)) (hbn0 : (bz0.toInt8.toInt32) = bz0) :
    MetFree l oM17 (head1 (Jvm.Cond.code oM17 jdk_67_method_15_code 2 (some (.object oB)) :: ws) oR9) (fun a U => a = #[(.ref b), (.int d0)] ∧ Z.Warmed39 U.vm ∧ U.heap = h0) (fun _ _ _ _ _ => True) (fun _ U o U' => ∃ v L, o = .returned v ∧ Q34c1 Z b d0 va kv y0 y1 y2 y3 cs da cd bz0 h0 n0 v U'.heap L ∧ FrameEnd U o U' L oR9.cells oR9.slots) := by
  refine MetFree.of_bodySF (plainFor_of_name pn4) hisR ?_
  intro p e s m args below meth c s₁ Bd hml0 hP hK
  obtain ⟨rfl, hZ, hh⟩ := hP
  have hx := Bd.exec
  have hby := Bd.bytes
  have hml : c.maxLocals = 2 := hml0
  have hown : s.vm.findClass oB = some m.cls := findClass_of_methodNamed Bd.named
  have hnm := (name_of_methodNamed Bd.named Bd.method).1
  have X0 : Stand p l e oR9 s m #[(.ref b), (.int d0)] below meth c s₁ [] 0 0 := Stand.of_body Bd
  have e0 : s₁.heap = h0 := by rw [← hh, Bd.state]; rfl
  have N0 := Fr.nil n0
  have pre0 : ∀ tZ, Steps p.tables e below (s₁.setTop (mkF m 0 #[.val (.ref b), .val (.int d0)] [])) tZ → Steps p.tables e below (s₁.setTop (entryFrame m #[(.ref b), (.int d0)] 2)) tZ := fun tZ kZ => castTop (ef34c1 m b d0) kZ
  obtain ⟨_, _, ⟨T1, L1, k1, n1⟩, -, X1, ⟨Lc1, hQ1, l1, y1, z1⟩, st1⟩ := superBack X0 hx hZ (y := oM16) hown (ow hw 186 rfl) (own_same (ow hw 188 rfl) (ow hw 76 rfl) rfl (by decide)) (ow hw 187 rfl) (ow hw 85 rfl) (by decide) (backOf (W := 0) (rm35c1 l Z a0 hw [] b d0 va kv y0 y1 y2 y3 cs da cd bz0 h0 n0 Z0 F0 F1 F2 F3 F4 gx1 gx2 nx1 Cs (by first | assumption | decide | omega) Ox Dd Da (by first | assumption | decide | omega) (by first | assumption | decide | omega) (by first | assumption | decide | omega) (by first | assumption | decide | omega)) hZ (ow hw 189 rfl) (ow hw 51 rfl) (by decide) (by decide)) e0 (Ins.self F0) (g := (mkF m 2 #[.val (.ref b), .val (.int d0)] [(.int d0), (.ref b)])) rfl (by rw [hml]; rfl) (ow hw 189 rfl) (argsL := [(.int d0)]) (rest := []) (lenOf pd11 rfl) rfl (Nat.le_of_eq rfl) (hb hby d34_2) (fun _ _ => ⟨rfl, e0, (by decide : 0 + 0 ≤ _), (by decide : 0 + 0 ≤ _)⟩)
  dsimp only [Pt.U, Pt.locs, Pt.cells, Pt.slots] at X1 l1 y1 z1 st1 hQ1
  subst l1 y1 z1
  obtain ⟨rfl, N1q, K1, f1_0, f1_1, f1_2, f1_3, f1_4⟩ := hQ1
  have N1 := Fr.app N0 N1q
  have Z2 : n0 ≤ T1.heap.size := Nat.le_trans Z0 K1.1
  have K3 : Keep h0 T1.heap [b, va] := (Keep.refl h0 [b, va]).trans K1 (allS (P := fun x => x ∈ _ ∨ _) (Or.inl (List.mem_of_getElem? (i := 0) rfl)) (allS (P := fun x => x ∈ _ ∨ _) (Or.inl (List.mem_of_getElem? (i := 1) rfl)) all0))
  obtain ⟨fsZ, hrZ, hrun, hended, hW, hsame⟩ := X1.leave (v := some (.ref b)) (fun h => by rw [Bd.returns] at h; cases h)
  refine ⟨_, _, pre0 _ ?_, hrun, hended, _, _, rfl, ?_, ⟨_, rfl⟩, hW, hsame.mono (by decide) (by decide)⟩
  · show Steps _ _ _ (s₁.setTop (mkF m 0 #[.val (.ref b), .val (.int d0)] [])) _
    refine XS.aloadN X0.here hx rfl (hb hby d34_0) rfl rfl ?_
    refine XS.iloadN X0.here hx rfl (hb hby d34_1) rfl  ?_
    show Steps _ _ _ (s₁.setTop (mkF m 2 #[.val (.ref b), .val (.int d0)] [(.int d0), (.ref b)])) _
    refine st1.trans ?_
    refine XS.pop X1.here hx rfl (hb hby d34_5) rfl rfl ?_
    refine XS.aloadN X1.here hx rfl (hb hby d34_6) rfl rfl ?_
    show Steps _ _ _ (T1.setTop (mkF m 7 #[.val (.ref b), .val (.int d0)] [(.ref b)])) _
    jvm_step X1.here [X1.here.top, hx, (hb hby d34_7), X1.method', Bd.returns, Value.isRef, FieldType.isReference]
    first | (intro acts; rw [hrZ _ acts rfl rfl rfl]) | rw [hrZ _ _ rfl rfl rfl]
    exact Steps.refl _
  · show Q34c1 Z b d0 va kv y0 y1 y2 y3 cs da cd bz0 h0 n0 _ T1.heap _
    exact ⟨rfl, N1, K3, f1_0, f1_1, f1_2, f1_3, f1_4⟩
theorem ef37c3 (m : MethodId) (d0 : Int32) (va : Addr) : entryFrame m #[(.int d0), (.int 4), (.ref va)] 7 = mkF m 0 #[.val (.int d0), .val (.int 4), .val (.ref va), .unset, .unset, .unset, .unset] [] := by first | (simp [entryFrame, mkF, argsToLocals, Value.category]; done) | rfl
def Q37c3 (Z : State) (d0 : Int32) (va : Addr) (kv : ClassId) (y0 : Int32) (y1 : Int32) (y2 : Int32) (y3 : Int32) (da : Addr) (cd : Cell) (bz0 : Int32) (h0 : Heap) (n0 : Nat) (v : Option Value) (h : Heap) (L : List Loc) : Prop := v = some (.int 3) ∧ Fr n0 L ∧ Keep h0 h [va] ∧ Arv Z h va kv .byte (16 : Int32) [(.int y0), (.int y1), (.int y2), (.int bz0)] (.int 0)
theorem rm37c3 (l : Launch) (Z : State) (a0 : Array Value) (hw : ∀ d ∈ tables_1, d.before a0 Z = true) (ws : List Jvm.Cond) (d0 : Int32) (va : Addr) (kv : ClassId) (y0 : Int32) (y1 : Int32) (y2 : Int32) (y3 : Int32) (da : Addr) (cd : Cell) (bz0 : Int32) (h0 : Heap) (n0 : Nat) (Z0 : n0 ≤ h0.size) (Vx1 : Arv Z h0 va kv .byte (16 : Int32) [(.int y0), (.int y1), (.int y2), (.int y3)] (.int 0)) (gx2 : n0 ≤ va) (Ox : Old Z n0 h0) (Dd : Sta Z Z.heap oI "DigitOnes" "[B" (.ref da)) (Da : Arr Z Z.heap da cd .byte) (hds : cd.slots.size = 100) (hdd0 : d0 = (0 : Int32) ∨ d0 = (1 : Int32)) (hdx0 : cd.slots[d0.toNatClampNeg]? = some (.int bz0)) (hbn0 : (bz0.toInt8.toInt32) = bz0) :
    MetFree l oM15 (head1 (Jvm.Cond.code oM15 jdk_33_method_12_code 7 (some .int) :: ws) oR1) (fun a U => a = #[(.int d0), (.int 4), (.ref va)] ∧ Z.Warmed39 U.vm ∧ U.heap = h0) (fun _ _ _ _ _ => True) (fun _ U o U' => ∃ v L, o = .returned v ∧ Q37c3 Z d0 va kv y0 y1 y2 y3 da cd bz0 h0 n0 v U'.heap L ∧ FrameEnd U o U' L oR1.cells oR1.slots) := by
  refine MetFree.of_bodySF (plainFor_of_name pn8) hisR ?_
  intro p e s m args below meth c s₁ Bd hml0 hP hK
  obtain ⟨rfl, hZ, hh⟩ := hP
  have hx := Bd.exec
  have hby := Bd.bytes
  have hml : c.maxLocals = 7 := hml0
  have hown : s.vm.findClass oI = some m.cls := findClass_of_methodNamed Bd.named
  have hnm := (name_of_methodNamed Bd.named Bd.method).1
  have X0 : Stand p l e oR1 s m #[(.int d0), (.int 4), (.ref va)] below meth c s₁ [] 0 0 := Stand.of_body Bd
  have e0 : s₁.heap = h0 := by rw [← hh, Bd.state]; rfl
  have N0 := Fr.nil n0
  have pre0 : ∀ tZ, Steps p.tables e below (s₁.setTop (mkF m 0 #[.val (.int d0), .val (.int 4), .val (.ref va), .unset, .unset, .unset, .unset] [])) tZ → Steps p.tables e below (s₁.setTop (entryFrame m #[(.int d0), (.int 4), (.ref va)] 7)) tZ := fun tZ kZ => castTop (ef37c3 m d0 va) kZ
  obtain ⟨T1, X1, e1, st1⟩ := getS2 X0 hx hZ hown (host := "") (Or.inl (ow hw 197 rfl)) Via.refl e0 (Dd.ext Ox.2) (g := (mkF m 78 #[.val (.int (-d0)), .val (.int 4), .val (.ref va), .unset, .unset, .val (.int 3), .val (.int 0)] [(.int 3), (.ref va)])) rfl (hb hby d37_78)
  have hin : ¬ ((-(-d0)) < 0 ∨ cd.slots.size ≤ ((-(-d0))).toNatClampNeg) := by rw [hds]; rcases hdd0 with rfl | rfl <;> decide
  have hdy : cd.slots[((-(-d0))).toNatClampNeg]? = some (.int bz0) := by rw [Int32.neg_neg]; exact hdx0
  obtain ⟨c2, Arc2, qc2, Sc2, Mc2, Hc2, Gc2⟩ := id Vx1
  have hinc2 : ¬ ((3 : Int32) < 0 ∨ c2.slots.size ≤ ((3 : Int32)).toNatClampNeg) := inb_of Sc2 ⟨by decide, by decide⟩
  obtain ⟨T3, h3, X3, e3, W3, st3⟩ := stB X1 hx hZ e1 Arc2 (j := (3 : Int32)) hinc2  (g := (mkF m 84 #[.val (.int (-d0)), .val (.int 4), .val (.ref va), .unset, .unset, .val (.int 3), .val (.int 0)] [(.int bz0), (.int 3), (.ref va)])) rfl rfl (hb hby d37_84)
  have V3 : Arv Z h3 va kv .byte (16 : Int32) [(.int y0), (.int y1), (.int y2), (.int (bz0.toInt8.toInt32))] (.int 0) := Arv.set Arc2 qc2 Sc2 Mc2 Hc2 Gc2 (fits_nar_byte _) W3 3 rfl (Nat.le_of_ble_eq_true rfl)
  have Z4 : n0 ≤ h3.size := Nat.le_trans Z0 (Nat.le_of_eq W3.size.symm)
  have K5 : Keep h0 h3 [va] := (Keep.refl h0 [va]).wr W3 (Or.inl (List.mem_of_getElem? (i := 0) rfl))
  have N3 := Fr.snoc X3 N0 gx2
  obtain ⟨fsZ, hrZ, hrun, hended, hW, hsame⟩ := X3.leave (v := some (.int 3)) (fun h => by rw [Bd.returns] at h; cases h)
  refine ⟨_, _, pre0 _ ?_, hrun, hended, _, _, rfl, ?_, ⟨_, rfl⟩, hW, hsame.mono (by decide) (by decide)⟩
  · show Steps _ _ _ (s₁.setTop (mkF m 0 #[.val (.int d0), .val (.int 4), .val (.ref va), .unset, .unset, .unset, .unset] [])) _
    refine XS.iloadN X0.here hx rfl (hb hby d37_0) rfl  ?_
    refine XS.istore X0.here hx rfl (hb hby d37_1) rfl (l' := #[.val (.int d0), .val (.int 4), .val (.ref va), .unset, .unset, .val (.int 4), .unset]) rfl ?_
    refine XS.iloadN X0.here hx rfl (hb hby d37_3) rfl  ?_
    refine XS.ifYes X0.here hx rfl (pc0 := 4) (pc' := 11) rfl (hb hby d37_4) rfl ((if0 _ _).trans (flt (by rcases hdd0 with rfl | rfl <;> decide)).2.1) (by decide) (by decide) ?_
    refine XS.iconst X0.here hx rfl (hb hby d37_11) ?_
    refine XS.istore X0.here hx rfl (hb hby d37_12) rfl (l' := #[.val (.int d0), .val (.int 4), .val (.ref va), .unset, .unset, .val (.int 4), .val (.int 0)]) rfl ?_
    refine XS.iload X0.here hx rfl (hb hby d37_14) rfl  ?_
    refine XS.ifNo X0.here hx rfl (hb hby d37_16) rfl ((if0 _ _).trans (teq (by decide)).2) ?_
    show Steps _ _ _ (s₁.setTop (mkF m 19 #[.val (.int d0), .val (.int 4), .val (.ref va), .unset, .unset, .val (.int 4), .val (.int 0)] [])) _
    refine XS.iloadN X0.here hx rfl (hb hby d37_19) rfl  ?_
    refine XS.ineg X0.here hx rfl (hb hby d37_20) rfl ?_
    refine XS.istoreN X0.here hx rfl (hb hby d37_21) rfl (l' := #[.val (.int (-d0)), .val (.int 4), .val (.ref va), .unset, .unset, .val (.int 4), .val (.int 0)]) rfl ?_
    refine XS.iloadN X0.here hx rfl (hb hby d37_22) rfl  ?_
    refine XS.bipush X0.here hx rfl (hb hby d37_23) ?_
    refine XS.icmpYes X0.here hx rfl (pc0 := 25) (pc' := 72) rfl (hb hby d37_25) rfl (tlt (by rcases hdd0 with rfl | rfl <;> decide)).2.2.1 (by decide) (by decide) ?_
    refine XS.aloadN X0.here hx rfl (hb hby d37_72) rfl rfl ?_
    refine XS.iinc X0.here hx rfl (hb hby d37_73) rfl (l' := #[.val (.int (-d0)), .val (.int 4), .val (.ref va), .unset, .unset, .val (.int ((4 : Int32) + (-1 : Int32))), .val (.int 0)]) rfl ?_
    show Steps _ _ _ (s₁.setTop (mkF m 76 #[.val (.int (-d0)), .val (.int 4), .val (.ref va), .unset, .unset, .val (.int ((4 : Int32) + (-1 : Int32))), .val (.int 0)] [(.ref va)])) _
    rw [show ((4 : Int32) + (-1 : Int32)) = (3 : Int32) from by decide]
    show Steps _ _ _ (s₁.setTop (mkF m 76 #[.val (.int (-d0)), .val (.int 4), .val (.ref va), .unset, .unset, .val (.int 3), .val (.int 0)] [(.ref va)])) _
    refine XS.iload X0.here hx rfl (hb hby d37_76) rfl  ?_
    show Steps _ _ _ (s₁.setTop (mkF m 78 #[.val (.int (-d0)), .val (.int 4), .val (.ref va), .unset, .unset, .val (.int 3), .val (.int 0)] [(.int 3), (.ref va)])) _
    refine st1 _ ?_
    refine XS.iloadN X1.here hx rfl (hb hby d37_81) rfl  ?_
    refine XS.ineg X1.here hx rfl (hb hby d37_82) rfl ?_
    show Steps _ _ _ (T1.setTop (mkF m 83 #[.val (.int (-d0)), .val (.int 4), .val (.ref va), .unset, .unset, .val (.int 3), .val (.int 0)] [(.int (-(-d0))), (.ref da), (.int 3), (.ref va)])) _
    refine X1.baloadBytes hx (j := (-(-d0))) (v := .int bz0) (by rw [e1]; exact (Da.ext Ox.2).1) (State.isArrayOf_alike hZ.alike Da.2.1) Da.2.2 hin hdy (g := (mkF m 83 #[.val (.int (-d0)), .val (.int 4), .val (.ref va), .unset, .unset, .val (.int 3), .val (.int 0)] [(.int (-(-d0))), (.ref da), (.int 3), (.ref va)])) rfl rfl (hb hby d37_83) _ ?_
    show Steps _ _ _ (T1.setTop (mkF m 84 #[.val (.int (-d0)), .val (.int 4), .val (.ref va), .unset, .unset, .val (.int 3), .val (.int 0)] [(.int bz0), (.int 3), (.ref va)])) _
    refine st3 _ ?_
    refine XS.iloadN X3.here hx rfl (hb hby d37_85) rfl  ?_
    refine XS.bipush X3.here hx rfl (hb hby d37_86) ?_
    refine XS.icmpYes X3.here hx rfl (pc0 := 88) (pc' := 104) rfl (hb hby d37_88) rfl (flt (by rcases hdd0 with rfl | rfl <;> decide)).2.1 (by decide) (by decide) ?_
    refine XS.iload X3.here hx rfl (hb hby d37_104) rfl  ?_
    refine XS.ifYes X3.here hx rfl (pc0 := 106) (pc' := 118) rfl (hb hby d37_106) rfl ((if0 _ _).trans (teq (by decide)).1) (by decide) (by decide) ?_
    refine XS.iload X3.here hx rfl (hb hby d37_118) rfl  ?_
    show Steps _ _ _ (T3.setTop (mkF m 120 #[.val (.int (-d0)), .val (.int 4), .val (.ref va), .unset, .unset, .val (.int 3), .val (.int 0)] [(.int 3)])) _
    exact retI X3 hx Bd.returns (hb hby d37_120) hrZ
  · show Q37c3 Z d0 va kv y0 y1 y2 y3 da cd bz0 h0 n0 _ T3.heap _
    rw [e3]
    exact ⟨rfl, N3, K5, (by have q := V3; simp only [hbn0] at q; exact q)⟩
theorem ef35c3 (m : MethodId) (b : Addr) (d0 : Int32) : entryFrame m #[(.ref b), (.int d0)] 4 = mkF m 0 #[.val (.ref b), .val (.int d0), .unset, .unset] [] := by first | (simp [entryFrame, mkF, argsToLocals, Value.category]; done) | rfl
def Q35c3 (Z : State) (b : Addr) (d0 : Int32) (va : Addr) (kv : ClassId) (y0 : Int32) (y1 : Int32) (y2 : Int32) (y3 : Int32) (cs : Int32) (da : Addr) (cd : Cell) (bz0 : Int32) (h0 : Heap) (n0 : Nat) (v : Option Value) (h : Heap) (L : List Loc) : Prop := v = some (.ref b) ∧ Fr n0 L ∧ Keep h0 h [b, va] ∧ Exa Z h b oB ∧ Fld Z h b oA "value" "[B" (.ref va) ∧ Fld Z h b oA "coder" "B" (.int 0) ∧ Fld Z h b oA "count" "I" (.int 4) ∧ Arv Z h va kv .byte (16 : Int32) [(.int y0), (.int y1), (.int y2), (.int bz0)] (.int 0)
theorem rm35c3 (l : Launch) (Z : State) (a0 : Array Value) (hw : ∀ d ∈ tables_1, d.before a0 Z = true) (ws : List Jvm.Cond) (b : Addr) (d0 : Int32) (va : Addr) (kv : ClassId) (y0 : Int32) (y1 : Int32) (y2 : Int32) (y3 : Int32) (cs : Int32) (da : Addr) (cd : Cell) (bz0 : Int32) (h0 : Heap) (n0 : Nat) (Z0 : n0 ≤ h0.size) (F0 : Exa Z h0 b oB) (F1 : Fld Z h0 b oA "value" "[B" (.ref va)) (F2 : Fld Z h0 b oA "coder" "B" (.int 0)) (F3 : Fld Z h0 b oA "count" "I" (.int 3)) (F4 : Arv Z h0 va kv .byte (16 : Int32) [(.int y0), (.int y1), (.int y2), (.int y3)] (.int 0)) (gx1 : n0 ≤ b) (gx2 : n0 ≤ va) (nx1 : b ≠ va) (Cs : Sta Z Z.heap oS "COMPACT_STRINGS" "Z" (.int cs)) (hcs : ¬ (cs = (0 : Int32))) (Ox : Old Z n0 h0) (Dd : Sta Z Z.heap oI "DigitOnes" "[B" (.ref da)) (Da : Arr Z Z.heap da cd .byte) (hds : cd.slots.size = 100) (hdd0 : d0 = (0 : Int32) ∨ d0 = (1 : Int32)) (hdx0 : cd.slots[d0.toNatClampNeg]? = some (.int bz0)) (hbn0 : (bz0.toInt8.toInt32) = bz0) :
    MetFree l oM16 (head1 (Jvm.Cond.code oM16 jdk_68_method_32_code 4 (some (.object oA)) :: ws) oR8) (fun a U => a = #[(.ref b), (.int d0)] ∧ Z.Warmed39 U.vm ∧ U.heap = h0) (fun _ _ _ _ _ => True) (fun _ U o U' => ∃ v L, o = .returned v ∧ Q35c3 Z b d0 va kv y0 y1 y2 y3 cs da cd bz0 h0 n0 v U'.heap L ∧ FrameEnd U o U' L oR8.cells oR8.slots) := by
  refine MetFree.of_bodySF (plainFor_of_name pn3) hisR ?_
  intro p e s m args below meth c s₁ Bd hml0 hP hK
  obtain ⟨rfl, hZ, hh⟩ := hP
  have hx := Bd.exec
  have hby := Bd.bytes
  have hml : c.maxLocals = 4 := hml0
  have hown : s.vm.findClass oA = some m.cls := findClass_of_methodNamed Bd.named
  have hnm := (name_of_methodNamed Bd.named Bd.method).1
  have X0 : Stand p l e oR8 s m #[(.ref b), (.int d0)] below meth c s₁ [] 0 0 := Stand.of_body Bd
  have e0 : s₁.heap = h0 := by rw [← hh, Bd.state]; rfl
  have N0 := Fr.nil n0
  have pre0 : ∀ tZ, Steps p.tables e below (s₁.setTop (mkF m 0 #[.val (.ref b), .val (.int d0), .unset, .unset] [])) tZ → Steps p.tables e below (s₁.setTop (entryFrame m #[(.ref b), (.int d0)] 4)) tZ := fun tZ kZ => castTop (ef35c3 m b d0) kZ
  obtain ⟨T1, X1, e1, st1⟩ := getF X0 hx hZ hown (host := "") (Or.inl (ow hw 87 rfl)) Via.refl e0 F3 (g := (mkF m 1 #[.val (.ref b), .val (.int d0), .unset, .unset] [(.ref b)])) rfl rfl (hb hby d35_1)
  obtain ⟨_, _, ⟨T2, L2, k2, n2⟩, -, X2, ⟨Lc2, hQ2, l2, y2, z2⟩, st2⟩ := Jvm.LawKit.callS X1 hx (y := oM14) hown (mvT hZ (ow hw 190 rfl)) (mvT hZ (ow hw 191 rfl)) (mvT hZ (ow hw 192 rfl)) (mvT hZ (ow hw 193 rfl)) (by decide) (backOf (W := 1) (rm36 l Z a0 hw [] d0 h0 n0 Z0 (by first | assumption | decide | omega)) hZ (ow hw 193 rfl) (ow hw 192 rfl) (by decide) (by decide)) (g := (mkF m 7 #[.val (.ref b), .val (.int d0), .val (.int 3), .unset] [(.int d0), (.int 3)])) rfl (by rw [hml]; rfl) (argsL := [(.int d0)]) (rest := [(.int 3)]) (lenOf pd9 rfl) rfl (Nat.le_of_eq rfl) (hb hby d35_7) (fun _ _ => ⟨rfl, e1, (by decide : 0 + 0 ≤ _), (by decide : 0 + 0 ≤ _)⟩)
  dsimp only [Pt.U, Pt.locs, Pt.cells, Pt.slots] at X2 l2 y2 z2 st2 hQ2
  subst l2 y2 z2
  obtain ⟨rfl, N2q, e2⟩ := hQ2
  have N2 := Fr.app N0 N2q
  obtain ⟨cq3, q3, q3'⟩ := F0.cell
  obtain ⟨_, _, ⟨T3, L3, k3, n3⟩, -, X3, ⟨Lc3, hQ3, l3, y3, z3⟩, st3⟩ := X2.privateBack hx (y := oM11) hown (mvT hZ (ow hw 172 rfl)) (mvT hZ (ow hw 173 rfl)) (own_selN hZ (notFace_of_selects (args := #[]) (mvT hZ (ow hw 175 rfl))) (ow hw 174 rfl) (ow hw 173 rfl) (by decide)) (Cond.privateMethod_at (mvP hZ (ow hw 174 rfl) (args := #[]))) (mvT hZ (ow hw 176 rfl)) (by decide) (backOf (W := 0) (rm32 l Z a0 hw [] b (4 : Int32) va kv y0 y1 y2 y3 h0 n0 Z0 F0 F1 F2 F4 (by first | assumption | decide | omega)) hZ (ow hw 176 rfl) (ow hw 51 rfl) (by decide) (by decide)) (g := (mkF m 14 #[.val (.ref b), .val (.int d0), .val (.int 3), .val (.int 4)] [(.int 4), (.ref b)])) rfl (by rw [hml]; rfl) (Steps.refl _) (a := b) (by rw [e2]; exact q3) q3' (argsL := [(.int 4)]) (rest := []) (lenOf pd1 rfl) rfl (Nat.le_of_eq rfl) (hb hby d35_14) (fun _ _ => ⟨rfl, e2, (by decide : 0 + 0 ≤ _), (by decide : 0 + 0 ≤ _)⟩)
  dsimp only [Pt.U, Pt.locs, Pt.cells, Pt.slots] at X3 l3 y3 z3 st3 hQ3
  subst l3 y3 z3
  obtain ⟨rfl, N3q, e3⟩ := hQ3
  have N3 := Fr.app N2 N3q
  obtain ⟨cq4, kq4, q4a, q4b, q4c⟩ := isOf hZ e3 F0
  obtain ⟨_, _, ⟨T4, L4, k4, n4⟩, -, X4, ⟨Lc4, hQ4, l4, y4, z4⟩, st4⟩ := X3.virtualBack hx (y := oM9) (z := oM9) hown (mvT hZ (ow hw 177 rfl)) (mvT hZ (ow hw 90 rfl)) (notFace_of_selects (args := #[]) (mvT hZ (ow hw 92 rfl))) (mvT hZ (ow hw 92 rfl)) (mvT hZ (ow hw 91 rfl)) (by decide) (backOf (W := 0) (rm14 l Z a0 hw [] b cs h0 n0 Z0 F2 Cs (by first | assumption | decide | omega) Ox) hZ (ow hw 93 rfl) (ow hw 51 rfl) (by decide) (by decide)) q4a q4c (g := (mkF m 18 #[.val (.ref b), .val (.int d0), .val (.int 3), .val (.int 4)] [(.ref b)])) rfl (by rw [hml]; rfl) (Steps.refl _) (argsL := []) (rest := []) (lenOf pd2 rfl) rfl (Nat.le_of_eq rfl) (hb hby d35_18) (fun _ _ => ⟨rfl, e3, (by decide : 0 + 0 ≤ _), (by decide : 0 + 0 ≤ _)⟩)
  dsimp only [Pt.U, Pt.locs, Pt.cells, Pt.slots] at X4 l4 y4 z4 st4 hQ4
  subst l4 y4 z4
  obtain ⟨rfl, N4q, e4⟩ := hQ4
  have N4 := Fr.app N3 N4q
  obtain ⟨T5, X5, e5, st5⟩ := getF X4 hx hZ hown (host := "") (Or.inl (ow hw 55 rfl)) Via.refl e4 F1 (g := (mkF m 27 #[.val (.ref b), .val (.int d0), .val (.int 3), .val (.int 4)] [(.ref b), (.int 4), (.int d0)])) rfl rfl (hb hby d35_27)
  obtain ⟨_, _, ⟨T6, L6, k6, n6⟩, -, X6, ⟨Lc6, hQ6, l6, y6, z6⟩, st6⟩ := Jvm.LawKit.callS X5 hx (y := oM15) hown (mvT hZ (ow hw 194 rfl)) (mvT hZ (ow hw 195 rfl)) (mvT hZ (ow hw 192 rfl)) (mvT hZ (ow hw 196 rfl)) (by decide) (backOf (W := 0) (rm37c3 l Z a0 hw [] d0 va kv y0 y1 y2 y3 da cd bz0 h0 n0 Z0 F4 gx2 Ox Dd Da (by first | assumption | decide | omega) (by first | assumption | decide | omega) (by first | assumption | decide | omega) (by first | assumption | decide | omega)) hZ (ow hw 196 rfl) (ow hw 192 rfl) (by decide) (by decide)) (g := (mkF m 30 #[.val (.ref b), .val (.int d0), .val (.int 3), .val (.int 4)] [(.ref va), (.int 4), (.int d0)])) rfl (by rw [hml]; rfl) (argsL := [(.int d0), (.int 4), (.ref va)]) (rest := []) (lenOf pd10 rfl) rfl (Nat.le_of_eq rfl) (hb hby d35_30) (fun _ _ => ⟨rfl, e5, (by decide : 0 + 0 ≤ _), (by decide : 0 + 0 ≤ _)⟩)
  dsimp only [Pt.U, Pt.locs, Pt.cells, Pt.slots] at X6 l6 y6 z6 st6 hQ6
  subst l6 y6 z6
  obtain ⟨rfl, N6q, K6, f6_0⟩ := hQ6
  have N6 := Fr.app N4 N6q
  have Z7 : n0 ≤ T6.heap.size := Nat.le_trans Z0 K6.1
  have K8 : Keep h0 T6.heap [b, va] := (Keep.refl h0 [b, va]).trans K6 (allS (P := fun x => x ∈ _ ∨ _) (Or.inl (List.mem_of_getElem? (i := 1) rfl)) all0)
  have fa9 := (F3.keep K6 (ninS nx1 nin0))
  have fa10 := (F0.keep K6)
  obtain ⟨T11, h11, X11, e11, W11, st11⟩ := putF X6 hx hZ hown (host := "") (Or.inl (ow hw 87 rfl)) Via.refl rfl fa9 fa10 (Or.inl (ow hw 88 rfl)) (ow hw 42 rfl) (ty := .int) (by decide) rfl rfl (g := (mkF m 50 #[.val (.ref b), .val (.int d0), .val (.int 3), .val (.int 4)] [(.int 4), (.ref b)])) rfl rfl (hb hby d35_50)
  have fw11 : Fld Z h11 b oA "count" "I" (.int 4) := fa9.same W11
  have Z12 : n0 ≤ h11.size := Nat.le_trans Z7 (Nat.le_of_eq W11.size.symm)
  have K13 : Keep h0 h11 [b, va] := K8.wr W11 (Or.inl (List.mem_of_getElem? (i := 0) rfl))
  have N11 := Fr.snoc X11 N6 gx1
  obtain ⟨fsZ, hrZ, hrun, hended, hW, hsame⟩ := X11.leave (v := some (.ref b)) (fun h => by rw [Bd.returns] at h; cases h)
  have fa14 := (fa10.wr W11)
  have fa15 := ((F1.keep K6 (ninS nx1 nin0)).other W11 (Or.inr (slot_ne (Or.inl (ow hw 56 rfl)) (Or.inl (ow hw 88 rfl)) (by decide) (t := (.array .byte)) (t' := .int) (by decide) (by decide))))
  have fa16 := ((F2.keep K6 (ninS nx1 nin0)).other W11 (Or.inr (slot_ne (Or.inl (ow hw 58 rfl)) (Or.inl (ow hw 88 rfl)) (by decide) (t := .byte) (t' := .int) (by decide) (by decide))))
  have fa17 := (f6_0.other W11 (Ne.symm nx1))
  refine ⟨_, _, pre0 _ ?_, hrun, hended, _, _, rfl, ?_, ⟨_, rfl⟩, hW, hsame.mono (by decide) (by decide)⟩
  · show Steps _ _ _ (s₁.setTop (mkF m 0 #[.val (.ref b), .val (.int d0), .unset, .unset] [])) _
    refine XS.aloadN X0.here hx rfl (hb hby d35_0) rfl rfl ?_
    show Steps _ _ _ (s₁.setTop (mkF m 1 #[.val (.ref b), .val (.int d0), .unset, .unset] [(.ref b)])) _
    refine st1 _ ?_
    refine XS.istoreN X1.here hx rfl (hb hby d35_4) rfl (l' := #[.val (.ref b), .val (.int d0), .val (.int 3), .unset]) rfl ?_
    refine XS.iloadN X1.here hx rfl (hb hby d35_5) rfl  ?_
    refine XS.iloadN X1.here hx rfl (hb hby d35_6) rfl  ?_
    show Steps _ _ _ (T1.setTop (mkF m 7 #[.val (.ref b), .val (.int d0), .val (.int 3), .unset] [(.int d0), (.int 3)])) _
    refine st2 _ ?_
    refine XS.iadd X2.here hx rfl (hb hby d35_10) rfl ?_
    show Steps _ _ _ (T2.setTop (mkF m 11 #[.val (.ref b), .val (.int d0), .val (.int 3), .unset] [(.int ((3 : Int32) + (1 : Int32)))])) _
    rw [show ((3 : Int32) + (1 : Int32)) = (4 : Int32) from by decide]
    show Steps _ _ _ (T2.setTop (mkF m 11 #[.val (.ref b), .val (.int d0), .val (.int 3), .unset] [(.int 4)])) _
    refine XS.istoreN X2.here hx rfl (hb hby d35_11) rfl (l' := #[.val (.ref b), .val (.int d0), .val (.int 3), .val (.int 4)]) rfl ?_
    refine XS.aloadN X2.here hx rfl (hb hby d35_12) rfl rfl ?_
    refine XS.iloadN X2.here hx rfl (hb hby d35_13) rfl  ?_
    show Steps _ _ _ (T2.setTop (mkF m 14 #[.val (.ref b), .val (.int d0), .val (.int 3), .val (.int 4)] [(.int 4), (.ref b)])) _
    refine st3.trans ?_
    refine XS.aloadN X3.here hx rfl (hb hby d35_17) rfl rfl ?_
    show Steps _ _ _ (T3.setTop (mkF m 18 #[.val (.ref b), .val (.int d0), .val (.int 3), .val (.int 4)] [(.ref b)])) _
    refine st4.trans ?_
    refine XS.ifNo X4.here hx rfl (hb hby d35_21) rfl ((if0 _ _).trans (feq (by decide)).1) ?_
    refine XS.iloadN X4.here hx rfl (hb hby d35_24) rfl  ?_
    refine XS.iloadN X4.here hx rfl (hb hby d35_25) rfl  ?_
    refine XS.aloadN X4.here hx rfl (hb hby d35_26) rfl rfl ?_
    show Steps _ _ _ (T4.setTop (mkF m 27 #[.val (.ref b), .val (.int d0), .val (.int 3), .val (.int 4)] [(.ref b), (.int 4), (.int d0)])) _
    refine st5 _ ?_
    show Steps _ _ _ (T5.setTop (mkF m 30 #[.val (.ref b), .val (.int d0), .val (.int 3), .val (.int 4)] [(.ref va), (.int 4), (.int d0)])) _
    refine st6 _ ?_
    refine XS.pop X6.here hx rfl (hb hby d35_33) rfl rfl ?_
    refine XS.goto X6.here hx rfl (pc0 := 34) (pc' := 48) rfl (hb hby d35_34) (by decide) (by decide) ?_
    refine XS.aloadN X6.here hx rfl (hb hby d35_48) rfl rfl ?_
    refine XS.iloadN X6.here hx rfl (hb hby d35_49) rfl  ?_
    show Steps _ _ _ (T6.setTop (mkF m 50 #[.val (.ref b), .val (.int d0), .val (.int 3), .val (.int 4)] [(.int 4), (.ref b)])) _
    refine st11 _ ?_
    refine XS.aloadN X11.here hx rfl (hb hby d35_53) rfl rfl ?_
    show Steps _ _ _ (T11.setTop (mkF m 54 #[.val (.ref b), .val (.int d0), .val (.int 3), .val (.int 4)] [(.ref b)])) _
    jvm_step X11.here [X11.here.top, hx, (hb hby d35_54), X11.method', Bd.returns, Value.isRef, FieldType.isReference]
    first | (intro acts; rw [hrZ _ acts rfl rfl rfl]) | rw [hrZ _ _ rfl rfl rfl]
    exact Steps.refl _
  · show Q35c3 Z b d0 va kv y0 y1 y2 y3 cs da cd bz0 h0 n0 _ T11.heap _
    rw [e11]
    exact ⟨rfl, N11, K13, fa14, fa15, fa16, fw11, fa17⟩
theorem ef34c3 (m : MethodId) (b : Addr) (d0 : Int32) : entryFrame m #[(.ref b), (.int d0)] 2 = mkF m 0 #[.val (.ref b), .val (.int d0)] [] := by first | (simp [entryFrame, mkF, argsToLocals, Value.category]; done) | rfl
def Q34c3 (Z : State) (b : Addr) (d0 : Int32) (va : Addr) (kv : ClassId) (y0 : Int32) (y1 : Int32) (y2 : Int32) (y3 : Int32) (cs : Int32) (da : Addr) (cd : Cell) (bz0 : Int32) (h0 : Heap) (n0 : Nat) (v : Option Value) (h : Heap) (L : List Loc) : Prop := v = some (.ref b) ∧ Fr n0 L ∧ Keep h0 h [b, va] ∧ Exa Z h b oB ∧ Fld Z h b oA "value" "[B" (.ref va) ∧ Fld Z h b oA "coder" "B" (.int 0) ∧ Fld Z h b oA "count" "I" (.int 4) ∧ Arv Z h va kv .byte (16 : Int32) [(.int y0), (.int y1), (.int y2), (.int bz0)] (.int 0)
theorem rm34c3 (l : Launch) (Z : State) (a0 : Array Value) (hw : ∀ d ∈ tables_1, d.before a0 Z = true) (ws : List Jvm.Cond) (b : Addr) (d0 : Int32) (va : Addr) (kv : ClassId) (y0 : Int32) (y1 : Int32) (y2 : Int32) (y3 : Int32) (cs : Int32) (da : Addr) (cd : Cell) (bz0 : Int32) (h0 : Heap) (n0 : Nat) (Z0 : n0 ≤ h0.size) (F0 : Exa Z h0 b oB) (F1 : Fld Z h0 b oA "value" "[B" (.ref va)) (F2 : Fld Z h0 b oA "coder" "B" (.int 0)) (F3 : Fld Z h0 b oA "count" "I" (.int 3)) (F4 : Arv Z h0 va kv .byte (16 : Int32) [(.int y0), (.int y1), (.int y2), (.int y3)] (.int 0)) (gx1 : n0 ≤ b) (gx2 : n0 ≤ va) (nx1 : b ≠ va) (Cs : Sta Z Z.heap oS "COMPACT_STRINGS" "Z" (.int cs)) (hcs : ¬ (cs = (0 : Int32))) (Ox : Old Z n0 h0) (Dd : Sta Z Z.heap oI "DigitOnes" "[B" (.ref da)) (Da : Arr Z Z.heap da cd .byte) (hds : cd.slots.size = 100) (hdd0 : d0 = (0 : Int32) ∨ d0 = (1 : Int32)) (hdx0 : cd.slots[d0.toNatClampNeg]? = some (.int bz0)) (hbn0 : (bz0.toInt8.toInt32) = bz0) :
    MetFree l oM17 (head1 (Jvm.Cond.code oM17 jdk_67_method_15_code 2 (some (.object oB)) :: ws) oR9) (fun a U => a = #[(.ref b), (.int d0)] ∧ Z.Warmed39 U.vm ∧ U.heap = h0) (fun _ _ _ _ _ => True) (fun _ U o U' => ∃ v L, o = .returned v ∧ Q34c3 Z b d0 va kv y0 y1 y2 y3 cs da cd bz0 h0 n0 v U'.heap L ∧ FrameEnd U o U' L oR9.cells oR9.slots) := by
  refine MetFree.of_bodySF (plainFor_of_name pn4) hisR ?_
  intro p e s m args below meth c s₁ Bd hml0 hP hK
  obtain ⟨rfl, hZ, hh⟩ := hP
  have hx := Bd.exec
  have hby := Bd.bytes
  have hml : c.maxLocals = 2 := hml0
  have hown : s.vm.findClass oB = some m.cls := findClass_of_methodNamed Bd.named
  have hnm := (name_of_methodNamed Bd.named Bd.method).1
  have X0 : Stand p l e oR9 s m #[(.ref b), (.int d0)] below meth c s₁ [] 0 0 := Stand.of_body Bd
  have e0 : s₁.heap = h0 := by rw [← hh, Bd.state]; rfl
  have N0 := Fr.nil n0
  have pre0 : ∀ tZ, Steps p.tables e below (s₁.setTop (mkF m 0 #[.val (.ref b), .val (.int d0)] [])) tZ → Steps p.tables e below (s₁.setTop (entryFrame m #[(.ref b), (.int d0)] 2)) tZ := fun tZ kZ => castTop (ef34c3 m b d0) kZ
  obtain ⟨_, _, ⟨T1, L1, k1, n1⟩, -, X1, ⟨Lc1, hQ1, l1, y1, z1⟩, st1⟩ := superBack X0 hx hZ (y := oM16) hown (ow hw 186 rfl) (own_same (ow hw 188 rfl) (ow hw 76 rfl) rfl (by decide)) (ow hw 187 rfl) (ow hw 85 rfl) (by decide) (backOf (W := 0) (rm35c3 l Z a0 hw [] b d0 va kv y0 y1 y2 y3 cs da cd bz0 h0 n0 Z0 F0 F1 F2 F3 F4 gx1 gx2 nx1 Cs (by first | assumption | decide | omega) Ox Dd Da (by first | assumption | decide | omega) (by first | assumption | decide | omega) (by first | assumption | decide | omega) (by first | assumption | decide | omega)) hZ (ow hw 189 rfl) (ow hw 51 rfl) (by decide) (by decide)) e0 (Ins.self F0) (g := (mkF m 2 #[.val (.ref b), .val (.int d0)] [(.int d0), (.ref b)])) rfl (by rw [hml]; rfl) (ow hw 189 rfl) (argsL := [(.int d0)]) (rest := []) (lenOf pd11 rfl) rfl (Nat.le_of_eq rfl) (hb hby d34_2) (fun _ _ => ⟨rfl, e0, (by decide : 0 + 0 ≤ _), (by decide : 0 + 0 ≤ _)⟩)
  dsimp only [Pt.U, Pt.locs, Pt.cells, Pt.slots] at X1 l1 y1 z1 st1 hQ1
  subst l1 y1 z1
  obtain ⟨rfl, N1q, K1, f1_0, f1_1, f1_2, f1_3, f1_4⟩ := hQ1
  have N1 := Fr.app N0 N1q
  have Z2 : n0 ≤ T1.heap.size := Nat.le_trans Z0 K1.1
  have K3 : Keep h0 T1.heap [b, va] := (Keep.refl h0 [b, va]).trans K1 (allS (P := fun x => x ∈ _ ∨ _) (Or.inl (List.mem_of_getElem? (i := 0) rfl)) (allS (P := fun x => x ∈ _ ∨ _) (Or.inl (List.mem_of_getElem? (i := 1) rfl)) all0))
  obtain ⟨fsZ, hrZ, hrun, hended, hW, hsame⟩ := X1.leave (v := some (.ref b)) (fun h => by rw [Bd.returns] at h; cases h)
  refine ⟨_, _, pre0 _ ?_, hrun, hended, _, _, rfl, ?_, ⟨_, rfl⟩, hW, hsame.mono (by decide) (by decide)⟩
  · show Steps _ _ _ (s₁.setTop (mkF m 0 #[.val (.ref b), .val (.int d0)] [])) _
    refine XS.aloadN X0.here hx rfl (hb hby d34_0) rfl rfl ?_
    refine XS.iloadN X0.here hx rfl (hb hby d34_1) rfl  ?_
    show Steps _ _ _ (s₁.setTop (mkF m 2 #[.val (.ref b), .val (.int d0)] [(.int d0), (.ref b)])) _
    refine st1.trans ?_
    refine XS.pop X1.here hx rfl (hb hby d34_5) rfl rfl ?_
    refine XS.aloadN X1.here hx rfl (hb hby d34_6) rfl rfl ?_
    show Steps _ _ _ (T1.setTop (mkF m 7 #[.val (.ref b), .val (.int d0)] [(.ref b)])) _
    jvm_step X1.here [X1.here.top, hx, (hb hby d34_7), X1.method', Bd.returns, Value.isRef, FieldType.isReference]
    first | (intro acts; rw [hrZ _ acts rfl rfl rfl]) | rw [hrZ _ _ rfl rfl rfl]
    exact Steps.refl _
  · show Q34c3 Z b d0 va kv y0 y1 y2 y3 cs da cd bz0 h0 n0 _ T1.heap _
    exact ⟨rfl, N1, K3, f1_0, f1_1, f1_2, f1_3, f1_4⟩
theorem d11_0 : decode jdk_68_method_64_code 0 = .ok (.aload_n 0, 1) := by decide +kernel
theorem d11_1 : decode jdk_68_method_64_code 1 = .ok (.getfield 15, 3) := by decide +kernel
theorem d11_4 : decode jdk_68_method_64_code 4 = .ok (.areturn, 1) := by decide +kernel
theorem ef11 (m : MethodId) (b : Addr) : entryFrame m #[(.ref b)] 1 = mkF m 0 #[.val (.ref b)] [] := by first | (simp [entryFrame, mkF, argsToLocals, Value.category]; done) | rfl
def Q11 (Z : State) (b : Addr) (va : Addr) (h0 : Heap) (n0 : Nat) (v : Option Value) (h : Heap) (L : List Loc) : Prop := v = some (.ref va) ∧ Fr n0 L ∧ h = h0
theorem rm11 (l : Launch) (Z : State) (a0 : Array Value) (hw : ∀ d ∈ tables_1, d.before a0 Z = true) (ws : List Jvm.Cond) (b : Addr) (va : Addr) (h0 : Heap) (n0 : Nat) (Z0 : n0 ≤ h0.size) (F1 : Fld Z h0 b oA "value" "[B" (.ref va)) :
    MetFree l oM18 (head1 (Jvm.Cond.code oM18 jdk_68_method_64_code 1 (some (.array .byte)) :: ws) oR1) (fun a U => a = #[(.ref b)] ∧ Z.Warmed39 U.vm ∧ U.heap = h0) (fun _ _ _ _ _ => True) (fun _ U o U' => ∃ v L, o = .returned v ∧ Q11 Z b va h0 n0 v U'.heap L ∧ FrameEnd U o U' L oR1.cells oR1.slots) := by
  refine MetFree.of_bodySF (plainFor_of_name pn3) hisR ?_
  intro p e s m args below meth c s₁ Bd hml0 hP hK
  obtain ⟨rfl, hZ, hh⟩ := hP
  have hx := Bd.exec
  have hby := Bd.bytes
  have hml : c.maxLocals = 1 := hml0
  have hown : s.vm.findClass oA = some m.cls := findClass_of_methodNamed Bd.named
  have hnm := (name_of_methodNamed Bd.named Bd.method).1
  have X0 : Stand p l e oR1 s m #[(.ref b)] below meth c s₁ [] 0 0 := Stand.of_body Bd
  have e0 : s₁.heap = h0 := by rw [← hh, Bd.state]; rfl
  have N0 := Fr.nil n0
  have pre0 : ∀ tZ, Steps p.tables e below (s₁.setTop (mkF m 0 #[.val (.ref b)] [])) tZ → Steps p.tables e below (s₁.setTop (entryFrame m #[(.ref b)] 1)) tZ := fun tZ kZ => castTop (ef11 m b) kZ
  obtain ⟨T1, X1, e1, st1⟩ := getF X0 hx hZ hown (host := "") (Or.inl (ow hw 55 rfl)) Via.refl e0 F1 (g := (mkF m 1 #[.val (.ref b)] [(.ref b)])) rfl rfl (hb hby d11_1)
  obtain ⟨fsZ, hrZ, hrun, hended, hW, hsame⟩ := X1.leave (v := some (.ref va)) (fun h => by rw [Bd.returns] at h; cases h)
  refine ⟨_, _, pre0 _ ?_, hrun, hended, _, _, rfl, ?_, ⟨_, rfl⟩, hW, hsame.mono (by decide) (by decide)⟩
  · show Steps _ _ _ (s₁.setTop (mkF m 0 #[.val (.ref b)] [])) _
    refine XS.aloadN X0.here hx rfl (hb hby d11_0) rfl rfl ?_
    show Steps _ _ _ (s₁.setTop (mkF m 1 #[.val (.ref b)] [(.ref b)])) _
    refine st1 _ ?_
    show Steps _ _ _ (T1.setTop (mkF m 4 #[.val (.ref b)] [(.ref va)])) _
    jvm_step X1.here [X1.here.top, hx, (hb hby d11_4), X1.method', Bd.returns, Value.isRef, FieldType.isReference]
    first | (intro acts; rw [hrZ _ acts rfl rfl rfl]) | rw [hrZ _ _ rfl rfl rfl]
    exact Steps.refl _
  · show Q11 Z b va h0 n0 _ T1.heap _
    rw [e1]
    exact ⟨rfl, N0, rfl⟩
theorem d13_0 : decode jdk_68_method_6_code 0 = .ok (.aload_n 0, 1) := by decide +kernel
theorem d13_1 : decode jdk_68_method_6_code 1 = .ok (.getfield 79, 3) := by decide +kernel
theorem d13_4 : decode jdk_68_method_6_code 4 = .ok (.ireturn, 1) := by decide +kernel
theorem ef13 (m : MethodId) (b : Addr) : entryFrame m #[(.ref b)] 1 = mkF m 0 #[.val (.ref b)] [] := by first | (simp [entryFrame, mkF, argsToLocals, Value.category]; done) | rfl
def Q13 (Z : State) (b : Addr) (cn : Int32) (h0 : Heap) (n0 : Nat) (v : Option Value) (h : Heap) (L : List Loc) : Prop := v = some (.int cn) ∧ Fr n0 L ∧ h = h0
theorem rm13 (l : Launch) (Z : State) (a0 : Array Value) (hw : ∀ d ∈ tables_1, d.before a0 Z = true) (ws : List Jvm.Cond) (b : Addr) (cn : Int32) (h0 : Heap) (n0 : Nat) (Z0 : n0 ≤ h0.size) (F3 : Fld Z h0 b oA "count" "I" (.int cn)) :
    MetFree l oM19 (head1 (Jvm.Cond.code oM19 jdk_68_method_6_code 1 (some .int) :: ws) oR1) (fun a U => a = #[(.ref b)] ∧ Z.Warmed39 U.vm ∧ U.heap = h0) (fun _ _ _ _ _ => True) (fun _ U o U' => ∃ v L, o = .returned v ∧ Q13 Z b cn h0 n0 v U'.heap L ∧ FrameEnd U o U' L oR1.cells oR1.slots) := by
  refine MetFree.of_bodySF (plainFor_of_name pn3) hisR ?_
  intro p e s m args below meth c s₁ Bd hml0 hP hK
  obtain ⟨rfl, hZ, hh⟩ := hP
  have hx := Bd.exec
  have hby := Bd.bytes
  have hml : c.maxLocals = 1 := hml0
  have hown : s.vm.findClass oA = some m.cls := findClass_of_methodNamed Bd.named
  have hnm := (name_of_methodNamed Bd.named Bd.method).1
  have X0 : Stand p l e oR1 s m #[(.ref b)] below meth c s₁ [] 0 0 := Stand.of_body Bd
  have e0 : s₁.heap = h0 := by rw [← hh, Bd.state]; rfl
  have N0 := Fr.nil n0
  have pre0 : ∀ tZ, Steps p.tables e below (s₁.setTop (mkF m 0 #[.val (.ref b)] [])) tZ → Steps p.tables e below (s₁.setTop (entryFrame m #[(.ref b)] 1)) tZ := fun tZ kZ => castTop (ef13 m b) kZ
  obtain ⟨T1, X1, e1, st1⟩ := getF X0 hx hZ hown (host := "") (Or.inl (ow hw 87 rfl)) Via.refl e0 F3 (g := (mkF m 1 #[.val (.ref b)] [(.ref b)])) rfl rfl (hb hby d13_1)
  obtain ⟨fsZ, hrZ, hrun, hended, hW, hsame⟩ := X1.leave (v := some (.int cn)) (fun h => by rw [Bd.returns] at h; cases h)
  refine ⟨_, _, pre0 _ ?_, hrun, hended, _, _, rfl, ?_, ⟨_, rfl⟩, hW, hsame.mono (by decide) (by decide)⟩
  · show Steps _ _ _ (s₁.setTop (mkF m 0 #[.val (.ref b)] [])) _
    refine XS.aloadN X0.here hx rfl (hb hby d13_0) rfl rfl ?_
    show Steps _ _ _ (s₁.setTop (mkF m 1 #[.val (.ref b)] [(.ref b)])) _
    refine st1 _ ?_
    show Steps _ _ _ (T1.setTop (mkF m 4 #[.val (.ref b)] [(.int cn)])) _
    exact retI X1 hx Bd.returns (hb hby d13_4) hrZ
  · show Q13 Z b cn h0 n0 _ T1.heap _
    rw [e1]
    exact ⟨rfl, N0, rfl⟩
theorem d12_0 : decode jdk_67_method_93_code 0 = .ok (.aload_n 0, 1) := by decide +kernel
theorem d12_1 : decode jdk_67_method_93_code 1 = .ok (.invokespecial 343, 3) := by decide +kernel
theorem pd12 : parseMethodDescriptor "()I" = some ⟨[], some .int⟩ := by decide +kernel
theorem d12_4 : decode jdk_67_method_93_code 4 = .ok (.ireturn, 1) := by decide +kernel
theorem ef12 (m : MethodId) (b : Addr) : entryFrame m #[(.ref b)] 1 = mkF m 0 #[.val (.ref b)] [] := by first | (simp [entryFrame, mkF, argsToLocals, Value.category]; done) | rfl
def Q12 (Z : State) (b : Addr) (cn : Int32) (h0 : Heap) (n0 : Nat) (v : Option Value) (h : Heap) (L : List Loc) : Prop := v = some (.int cn) ∧ Fr n0 L ∧ h = h0
theorem rm12 (l : Launch) (Z : State) (a0 : Array Value) (hw : ∀ d ∈ tables_1, d.before a0 Z = true) (ws : List Jvm.Cond) (b : Addr) (cn : Int32) (h0 : Heap) (n0 : Nat) (Z0 : n0 ≤ h0.size) (Ex1 : Exa Z h0 b oB) (F3 : Fld Z h0 b oA "count" "I" (.int cn)) :
    MetFree l oM20 (head1 (Jvm.Cond.code oM20 jdk_67_method_93_code 1 (some .int) :: ws) oR3) (fun a U => a = #[(.ref b)] ∧ Z.Warmed39 U.vm ∧ U.heap = h0) (fun _ _ _ _ _ => True) (fun _ U o U' => ∃ v L, o = .returned v ∧ Q12 Z b cn h0 n0 v U'.heap L ∧ FrameEnd U o U' L oR3.cells oR3.slots) := by
  refine MetFree.of_bodySF (plainFor_of_name pn4) hisR ?_
  intro p e s m args below meth c s₁ Bd hml0 hP hK
  obtain ⟨rfl, hZ, hh⟩ := hP
  have hx := Bd.exec
  have hby := Bd.bytes
  have hml : c.maxLocals = 1 := hml0
  have hown : s.vm.findClass oB = some m.cls := findClass_of_methodNamed Bd.named
  have hnm := (name_of_methodNamed Bd.named Bd.method).1
  have X0 : Stand p l e oR3 s m #[(.ref b)] below meth c s₁ [] 0 0 := Stand.of_body Bd
  have e0 : s₁.heap = h0 := by rw [← hh, Bd.state]; rfl
  have N0 := Fr.nil n0
  have pre0 : ∀ tZ, Steps p.tables e below (s₁.setTop (mkF m 0 #[.val (.ref b)] [])) tZ → Steps p.tables e below (s₁.setTop (entryFrame m #[(.ref b)] 1)) tZ := fun tZ kZ => castTop (ef12 m b) kZ
  obtain ⟨_, _, ⟨T1, L1, k1, n1⟩, -, X1, ⟨Lc1, hQ1, l1, y1, z1⟩, st1⟩ := superBack X0 hx hZ (y := oM19) hown (ow hw 84 rfl) (own_same (ow hw 79 rfl) (ow hw 76 rfl) rfl (by decide)) (ow hw 80 rfl) (ow hw 85 rfl) (by decide) (backOf (W := 0) (rm13 l Z a0 hw [] b cn h0 n0 Z0 F3) hZ (ow hw 86 rfl) (ow hw 51 rfl) (by decide) (by decide)) e0 (Ins.self Ex1) (g := (mkF m 1 #[.val (.ref b)] [(.ref b)])) rfl (by rw [hml]; rfl) (ow hw 86 rfl) (argsL := []) (rest := []) (lenOf pd12 rfl) rfl (Nat.le_of_eq rfl) (hb hby d12_1) (fun _ _ => ⟨rfl, e0, (by decide : 0 + 0 ≤ _), (by decide : 0 + 0 ≤ _)⟩)
  dsimp only [Pt.U, Pt.locs, Pt.cells, Pt.slots] at X1 l1 y1 z1 st1 hQ1
  subst l1 y1 z1
  obtain ⟨rfl, N1q, e1⟩ := hQ1
  have N1 := Fr.app N0 N1q
  obtain ⟨fsZ, hrZ, hrun, hended, hW, hsame⟩ := X1.leave (v := some (.int cn)) (fun h => by rw [Bd.returns] at h; cases h)
  refine ⟨_, _, pre0 _ ?_, hrun, hended, _, _, rfl, ?_, ⟨_, rfl⟩, hW, hsame.mono (by decide) (by decide)⟩
  · show Steps _ _ _ (s₁.setTop (mkF m 0 #[.val (.ref b)] [])) _
    refine XS.aloadN X0.here hx rfl (hb hby d12_0) rfl rfl ?_
    show Steps _ _ _ (s₁.setTop (mkF m 1 #[.val (.ref b)] [(.ref b)])) _
    refine st1.trans ?_
    show Steps _ _ _ (T1.setTop (mkF m 4 #[.val (.ref b)] [(.int cn)])) _
    exact retI X1 hx Bd.returns (hb hby d12_4) hrZ
  · show Q12 Z b cn h0 n0 _ T1.heap _
    rw [e1]
    exact ⟨rfl, N1, rfl⟩
theorem pn13 : plainName "java/util/Arrays" = true := by first | (simp [plainName, overriddenIn]; done) | decide +kernel
theorem d17_0 : decode jdk_65_method_131_code 0 = .ok (.iload_n 1, 1) := by decide +kernel
theorem d17_1 : decode jdk_65_method_131_code 1 = .ok (.iload_n 0, 1) := by decide +kernel
theorem d17_2 : decode jdk_65_method_131_code 2 = .ok (.if_icmp .ge 35, 3) := by decide +kernel
theorem d17_37 : decode jdk_65_method_131_code 37 = .ok (.return_, 1) := by decide +kernel
theorem ef17 (m : MethodId) (cn : Int32) : entryFrame m #[(.int 0), (.int cn)] 2 = mkF m 0 #[.val (.int 0), .val (.int cn)] [] := by first | (simp [entryFrame, mkF, argsToLocals, Value.category]; done) | rfl
def Q17 (Z : State) (cn : Int32) (h0 : Heap) (n0 : Nat) (v : Option Value) (h : Heap) (L : List Loc) : Prop := v = none ∧ Fr n0 L ∧ h = h0
theorem rm17 (l : Launch) (Z : State) (a0 : Array Value) (hw : ∀ d ∈ tables_1, d.before a0 Z = true) (ws : List Jvm.Cond) (cn : Int32) (h0 : Heap) (n0 : Nat) (Z0 : n0 ≤ h0.size) (hn : ¬ (cn < (0 : Int32))) :
    MetFree l oM21 (head1 (Jvm.Cond.code oM21 jdk_65_method_131_code 2 none :: ws) oR1) (fun a U => a = #[(.int 0), (.int cn)] ∧ Z.Warmed39 U.vm ∧ U.heap = h0) (fun _ _ _ _ _ => True) (fun _ U o U' => ∃ v L, o = .returned v ∧ Q17 Z cn h0 n0 v U'.heap L ∧ FrameEnd U o U' L oR1.cells oR1.slots) := by
  refine MetFree.of_bodySF (plainFor_of_name pn13) hisR ?_
  intro p e s m args below meth c s₁ Bd hml0 hP hK
  obtain ⟨rfl, hZ, hh⟩ := hP
  have hx := Bd.exec
  have hby := Bd.bytes
  have hml : c.maxLocals = 2 := hml0
  have hown : s.vm.findClass "java/util/Arrays" = some m.cls := findClass_of_methodNamed Bd.named
  have hnm := (name_of_methodNamed Bd.named Bd.method).1
  have X0 : Stand p l e oR1 s m #[(.int 0), (.int cn)] below meth c s₁ [] 0 0 := Stand.of_body Bd
  have e0 : s₁.heap = h0 := by rw [← hh, Bd.state]; rfl
  have N0 := Fr.nil n0
  have pre0 : ∀ tZ, Steps p.tables e below (s₁.setTop (mkF m 0 #[.val (.int 0), .val (.int cn)] [])) tZ → Steps p.tables e below (s₁.setTop (entryFrame m #[(.int 0), (.int cn)] 2)) tZ := fun tZ kZ => castTop (ef17 m cn) kZ
  obtain ⟨fsZ, hrZ, hrun, hended, hW, hsame⟩ := X0.leave (v := none) (fun _ => rfl)
  refine ⟨_, _, pre0 _ ?_, hrun, hended, _, _, rfl, ?_, ⟨_, rfl⟩, hW, hsame.mono (by decide) (by decide)⟩
  · show Steps _ _ _ (s₁.setTop (mkF m 0 #[.val (.int 0), .val (.int cn)] [])) _
    refine XS.iloadN X0.here hx rfl (hb hby d17_0) rfl  ?_
    refine XS.iloadN X0.here hx rfl (hb hby d17_1) rfl  ?_
    refine XS.icmpYes X0.here hx rfl (pc0 := 2) (pc' := 37) rfl (hb hby d17_2) rfl (flt hn).2.1 (by decide) (by decide) ?_
    show Steps _ _ _ (s₁.setTop (mkF m 37 #[.val (.int 0), .val (.int cn)] [])) _
    exact X0.returnOut hx Bd.returns (hb hby d17_37) hrZ
  · show Q17 Z cn h0 n0 _ s₁.heap _
    rw [e0]
    exact ⟨rfl, N0, rfl⟩
theorem d18_0 : decode jdk_29_method_69_code 0 = .ok (.iload_n 0, 1) := by decide +kernel
theorem d18_1 : decode jdk_29_method_69_code 1 = .ok (.iload_n 1, 1) := by decide +kernel
theorem d18_2 : decode jdk_29_method_69_code 2 = .ok (.if_icmp .gt 7, 3) := by decide +kernel
theorem d18_9 : decode jdk_29_method_69_code 9 = .ok (.iload_n 1, 1) := by decide +kernel
theorem d18_10 : decode jdk_29_method_69_code 10 = .ok (.ireturn, 1) := by decide +kernel
theorem ef18 (m : MethodId) (cn : Int32) : entryFrame m #[(.int 16), (.int cn)] 2 = mkF m 0 #[.val (.int 16), .val (.int cn)] [] := by first | (simp [entryFrame, mkF, argsToLocals, Value.category]; done) | rfl
def Q18 (Z : State) (cn : Int32) (h0 : Heap) (n0 : Nat) (v : Option Value) (h : Heap) (L : List Loc) : Prop := v = some (.int cn) ∧ Fr n0 L ∧ h = h0
theorem rm18 (l : Launch) (Z : State) (a0 : Array Value) (hw : ∀ d ∈ tables_1, d.before a0 Z = true) (ws : List Jvm.Cond) (cn : Int32) (h0 : Heap) (n0 : Nat) (Z0 : n0 ≤ h0.size) (hn : cn < (16 : Int32)) :
    MetFree l oM22 (head1 (Jvm.Cond.code oM22 jdk_29_method_69_code 2 (some .int) :: ws) oR1) (fun a U => a = #[(.int 16), (.int cn)] ∧ Z.Warmed39 U.vm ∧ U.heap = h0) (fun _ _ _ _ _ => True) (fun _ U o U' => ∃ v L, o = .returned v ∧ Q18 Z cn h0 n0 v U'.heap L ∧ FrameEnd U o U' L oR1.cells oR1.slots) := by
  refine MetFree.of_bodySF (Jvm.Free.JP.mathPlain rfl (by decide +kernel)) hisR ?_
  intro p e s m args below meth c s₁ Bd hml0 hP hK
  obtain ⟨rfl, hZ, hh⟩ := hP
  have hx := Bd.exec
  have hby := Bd.bytes
  have hml : c.maxLocals = 2 := hml0
  have hown : s.vm.findClass "java/lang/Math" = some m.cls := findClass_of_methodNamed Bd.named
  have hnm := (name_of_methodNamed Bd.named Bd.method).1
  have X0 : Stand p l e oR1 s m #[(.int 16), (.int cn)] below meth c s₁ [] 0 0 := Stand.of_body Bd
  have e0 : s₁.heap = h0 := by rw [← hh, Bd.state]; rfl
  have N0 := Fr.nil n0
  have pre0 : ∀ tZ, Steps p.tables e below (s₁.setTop (mkF m 0 #[.val (.int 16), .val (.int cn)] [])) tZ → Steps p.tables e below (s₁.setTop (entryFrame m #[(.int 16), (.int cn)] 2)) tZ := fun tZ kZ => castTop (ef18 m cn) kZ
  obtain ⟨fsZ, hrZ, hrun, hended, hW, hsame⟩ := X0.leave (v := some (.int cn)) (fun h => by rw [Bd.returns] at h; cases h)
  refine ⟨_, _, pre0 _ ?_, hrun, hended, _, _, rfl, ?_, ⟨_, rfl⟩, hW, hsame.mono (by decide) (by decide)⟩
  · show Steps _ _ _ (s₁.setTop (mkF m 0 #[.val (.int 16), .val (.int cn)] [])) _
    refine XS.iloadN X0.here hx rfl (hb hby d18_0) rfl  ?_
    refine XS.iloadN X0.here hx rfl (hb hby d18_1) rfl  ?_
    refine XS.icmpYes X0.here hx rfl (pc0 := 2) (pc' := 9) rfl (hb hby d18_2) rfl (tlt hn).2.2.1 (by decide) (by decide) ?_
    refine XS.iloadN X0.here hx rfl (hb hby d18_9) rfl  ?_
    show Steps _ _ _ (s₁.setTop (mkF m 10 #[.val (.int 16), .val (.int cn)] [(.int cn)])) _
    exact retI X0 hx Bd.returns (hb hby d18_10) hrZ
  · show Q18 Z cn h0 n0 _ s₁.heap _
    rw [e0]
    exact ⟨rfl, N0, rfl⟩
theorem d16_0 : decode jdk_65_method_133_code 0 = .ok (.iload_n 1, 1) := by decide +kernel
theorem d16_1 : decode jdk_65_method_133_code 1 = .ok (.iload_n 2, 1) := by decide +kernel
theorem d16_2 : decode jdk_65_method_133_code 2 = .ok (.invokestatic 343, 3) := by decide +kernel
theorem pd14 : parseMethodDescriptor "(II)V" = some ⟨[.int, .int], none⟩ := by decide +kernel
theorem d16_5 : decode jdk_65_method_133_code 5 = .ok (.iload_n 2, 1) := by decide +kernel
theorem d16_6 : decode jdk_65_method_133_code 6 = .ok (.iload_n 1, 1) := by decide +kernel
theorem d16_7 : decode jdk_65_method_133_code 7 = .ok (.isub, 1) := by decide +kernel
theorem d16_8 : decode jdk_65_method_133_code 8 = .ok (.istore_n 3, 1) := by decide +kernel
theorem d16_9 : decode jdk_65_method_133_code 9 = .ok (.iload_n 3, 1) := by decide +kernel
theorem d16_10 : decode jdk_65_method_133_code 10 = .ok (.newarray .byte, 2) := by decide +kernel
theorem d16_12 : decode jdk_65_method_133_code 12 = .ok (.astore 4, 2) := by decide +kernel
theorem d16_14 : decode jdk_65_method_133_code 14 = .ok (.aload_n 0, 1) := by decide +kernel
theorem d16_15 : decode jdk_65_method_133_code 15 = .ok (.iload_n 1, 1) := by decide +kernel
theorem d16_16 : decode jdk_65_method_133_code 16 = .ok (.aload 4, 2) := by decide +kernel
theorem d16_18 : decode jdk_65_method_133_code 18 = .ok (.iconst 0, 1) := by decide +kernel
theorem d16_19 : decode jdk_65_method_133_code 19 = .ok (.aload_n 0, 1) := by decide +kernel
theorem d16_20 : decode jdk_65_method_133_code 20 = .ok (.arraylength, 1) := by decide +kernel
theorem d16_21 : decode jdk_65_method_133_code 21 = .ok (.iload_n 1, 1) := by decide +kernel
theorem d16_22 : decode jdk_65_method_133_code 22 = .ok (.isub, 1) := by decide +kernel
theorem d16_23 : decode jdk_65_method_133_code 23 = .ok (.iload_n 3, 1) := by decide +kernel
theorem d16_24 : decode jdk_65_method_133_code 24 = .ok (.invokestatic 304, 3) := by decide +kernel
theorem pd15 : parseMethodDescriptor "(II)I" = some ⟨[.int, .int], some .int⟩ := by decide +kernel
theorem d16_27 : decode jdk_65_method_133_code 27 = .ok (.invokestatic 150, 3) := by decide +kernel
theorem d16_30 : decode jdk_65_method_133_code 30 = .ok (.aload 4, 2) := by decide +kernel
theorem d16_32 : decode jdk_65_method_133_code 32 = .ok (.areturn, 1) := by decide +kernel
theorem ef16n0 (m : MethodId) (va : Addr) : entryFrame m #[(.ref va), (.int 0), (.int 0)] 5 = mkF m 0 #[.val (.ref va), .val (.int 0), .val (.int 0), .unset, .unset] [] := by first | (simp [entryFrame, mkF, argsToLocals, Value.category]; done) | rfl
def Q16n0 (Z : State) (va : Addr) (kv : ClassId) (y0 : Int32) (y1 : Int32) (y2 : Int32) (y3 : Int32) (h0 : Heap) (n0 : Nat) (v : Option Value) (h : Heap) (L : List Loc) : Prop := ∃ (vb : Addr) (kb : ClassId), v = some (.ref vb) ∧ Fr n0 L ∧ Keep h0 h [] ∧ n0 ≤ vb ∧ h0.size ≤ vb ∧ Arv Z h vb kb .byte (0 : Int32) [] (.int 0)
theorem rm16n0 (l : Launch) (Z : State) (a0 : Array Value) (hw : ∀ d ∈ tables_1, d.before a0 Z = true) (ws : List Jvm.Cond) (va : Addr) (kv : ClassId) (y0 : Int32) (y1 : Int32) (y2 : Int32) (y3 : Int32) (h0 : Heap) (n0 : Nat) (Z0 : n0 ≤ h0.size) (Vx1 : Arv Z h0 va kv .byte (16 : Int32) [(.int y0), (.int y1), (.int y2), (.int y3)] (.int 0)) :
    MetFree l oM23 (head1 (Jvm.Cond.code oM23 jdk_65_method_133_code 5 (some (.array .byte)) :: ws) oR10) (fun a U => a = #[(.ref va), (.int 0), (.int 0)] ∧ Z.Warmed39 U.vm ∧ U.heap = h0) (fun _ _ _ _ _ => True) (fun _ U o U' => ∃ v L, o = .returned v ∧ Q16n0 Z va kv y0 y1 y2 y3 h0 n0 v U'.heap L ∧ FrameEnd U o U' L oR10.cells oR10.slots) := by
  refine MetFree.of_bodySF (plainFor_of_name pn13) hisR ?_
  intro p e s m args below meth c s₁ Bd hml0 hP hK
  obtain ⟨rfl, hZ, hh⟩ := hP
  have hx := Bd.exec
  have hby := Bd.bytes
  have hml : c.maxLocals = 5 := hml0
  have hown : s.vm.findClass "java/util/Arrays" = some m.cls := findClass_of_methodNamed Bd.named
  have hnm := (name_of_methodNamed Bd.named Bd.method).1
  have X0 : Stand p l e oR10 s m #[(.ref va), (.int 0), (.int 0)] below meth c s₁ [] 0 0 := Stand.of_body Bd
  have e0 : s₁.heap = h0 := by rw [← hh, Bd.state]; rfl
  have N0 := Fr.nil n0
  have pre0 : ∀ tZ, Steps p.tables e below (s₁.setTop (mkF m 0 #[.val (.ref va), .val (.int 0), .val (.int 0), .unset, .unset] [])) tZ → Steps p.tables e below (s₁.setTop (entryFrame m #[(.ref va), (.int 0), (.int 0)] 5)) tZ := fun tZ kZ => castTop (ef16n0 m va) kZ
  obtain ⟨_, _, ⟨T1, L1, k1, n1⟩, -, X1, ⟨Lc1, hQ1, l1, y1, z1⟩, st1⟩ := Jvm.LawKit.callS X0 hx (y := oM21) hown (mvT hZ (ow hw 102 rfl)) (mvT hZ (ow hw 103 rfl)) (mvT hZ (ow hw 97 rfl)) (mvT hZ (ow hw 104 rfl)) (by decide) (backOf (W := 0) (rm17 l Z a0 hw [] (0 : Int32) h0 n0 Z0 (by first | assumption | decide | omega)) hZ (ow hw 104 rfl) (ow hw 97 rfl) (by decide) (by decide)) (g := (mkF m 2 #[.val (.ref va), .val (.int 0), .val (.int 0), .unset, .unset] [(.int 0), (.int 0)])) rfl (by rw [hml]; rfl) (argsL := [(.int 0), (.int 0)]) (rest := []) (lenOf pd14 rfl) rfl (Nat.le_of_eq rfl) (hb hby d16_2) (fun _ _ => ⟨rfl, e0, (by decide : 0 + 0 ≤ _), (by decide : 0 + 0 ≤ _)⟩)
  dsimp only [Pt.U, Pt.locs, Pt.cells, Pt.slots] at X1 l1 y1 z1 st1 hQ1
  subst l1 y1 z1
  obtain ⟨rfl, N1q, e1⟩ := hQ1
  have N1 := Fr.app N0 N1q
  obtain ⟨T2, h2, k2, X2, e2, E2, A2, st2⟩ := newP X1 hx hZ (ow hw 4 rfl) e1 (g := (mkF m 10 #[.val (.ref va), .val (.int 0), .val (.int 0), .val (.int 0), .unset] [(.int 0)])) rfl (hb hby d16_10) rfl (by decide) (cap := 0) (by decide) (by decide) (by decide) (by decide)
  obtain ⟨b2, g2⟩ : ∃ z, z = h0.size := ⟨_, rfl⟩
  rw [← g2] at A2 st2
  have ne3 : va ≠ b2 := Nat.ne_of_lt (Nat.lt_of_lt_of_le Vx1.lt (Nat.le_of_eq g2.symm))
  have gn_b2 : n0 ≤ b2 := Nat.le_trans Z0 (Nat.le_of_eq g2.symm)
  have sz_b2 : h0.size ≤ b2 := Nat.le_trans (Keep.refl h0 []).1 (Nat.le_of_eq g2.symm)
  have Z4 : n0 ≤ h2.size := Nat.le_trans Z0 E2.1
  have K5 : Keep h0 h2 [] := (Keep.refl h0 []).ext E2
  have V2 : Arv Z h2 b2 k2 .byte (0 : Int32) [] (.int 0) := Arv.new A2 (by decide)
  have fa6 := (Vx1.ext E2)
  obtain ⟨c7, Arc7, -, Sc7, Mc7, -, -⟩ := id fa6
  obtain ⟨_, _, ⟨T8, L8, k8, n8⟩, -, X8, ⟨Lc8, hQ8, l8, y8, z8⟩, st8⟩ := Jvm.LawKit.callS X2 hx (y := oM22) hown (mvT hZ (ow hw 105 rfl)) (mvT hZ (ow hw 106 rfl)) (mvT hZ (ow hw 107 rfl)) (mvT hZ (ow hw 108 rfl)) (by decide) (backOf (W := 4) (rm18 l Z a0 hw [] (0 : Int32) h2 n0 Z4 (by first | assumption | decide | omega)) hZ (ow hw 108 rfl) (ow hw 107 rfl) (by decide) (by decide)) (g := (mkF m 24 #[.val (.ref va), .val (.int 0), .val (.int 0), .val (.int 0), .val (.ref b2)] [(.int 0), (.int 16), (.int 0), (.ref b2), (.int 0), (.ref va)])) rfl (by rw [hml]; rfl) (argsL := [(.int 16), (.int 0)]) (rest := [(.int 0), (.ref b2), (.int 0), (.ref va)]) (lenOf pd15 rfl) rfl (Nat.le_of_eq rfl) (hb hby d16_24) (fun _ _ => ⟨rfl, e2, (by decide : 1 + 0 ≤ _), (by decide : 0 + 0 ≤ _)⟩)
  dsimp only [Pt.U, Pt.locs, Pt.cells, Pt.slots] at X8 l8 y8 z8 st8 hQ8
  subst l8 y8 z8
  obtain ⟨rfl, N8q, e8⟩ := hQ8
  have N8 := Fr.app N1 N8q
  obtain ⟨T9, h9, L9, X9, e9, N9, K9, V9, st9⟩ := cpA X8 hx hZ hown (ow hw 109 rfl) (ow hw 112 rfl) (ow hw 110 rfl) (ow hw 111 rfl) e8 fa6 V2 (us := []) (Or.inl ⟨rfl, rfl⟩) (by decide) (by decide) (by decide) (by decide) (by decide) rfl (by decide) N8 gn_b2 (g := (mkF m 27 #[.val (.ref va), .val (.int 0), .val (.int 0), .val (.int 0), .val (.ref b2)] [(.int 0), (.int 0), (.ref b2), (.int 0), (.ref va)])) rfl (by rw [hml]; rfl) rfl (hb hby d16_27) (by decide) (W := 0) (Nat.le_of_eq rfl) (by decide)
  have Z10 : n0 ≤ h9.size := Nat.le_trans Z4 K9.1
  have K11 : Keep h0 h9 [] := K5.trans K9 (allS (P := fun x => x ∈ _ ∨ _) (Or.inr sz_b2) all0)
  have U9 : Arv Z h9 b2 k2 .byte (0 : Int32) [] (.int 0) := V9
  obtain ⟨fsZ, hrZ, hrun, hended, hW, hsame⟩ := X9.leave (v := some (.ref b2)) (fun h => by rw [Bd.returns] at h; cases h)
  refine ⟨_, _, pre0 _ ?_, hrun, hended, _, _, rfl, ?_, ⟨_, rfl⟩, hW, hsame.mono (by decide) (by decide)⟩
  · show Steps _ _ _ (s₁.setTop (mkF m 0 #[.val (.ref va), .val (.int 0), .val (.int 0), .unset, .unset] [])) _
    refine XS.iloadN X0.here hx rfl (hb hby d16_0) rfl  ?_
    refine XS.iloadN X0.here hx rfl (hb hby d16_1) rfl  ?_
    show Steps _ _ _ (s₁.setTop (mkF m 2 #[.val (.ref va), .val (.int 0), .val (.int 0), .unset, .unset] [(.int 0), (.int 0)])) _
    refine st1 _ ?_
    refine XS.iloadN X1.here hx rfl (hb hby d16_5) rfl  ?_
    refine XS.iloadN X1.here hx rfl (hb hby d16_6) rfl  ?_
    refine XS.isub X1.here hx rfl (hb hby d16_7) rfl ?_
    show Steps _ _ _ (T1.setTop (mkF m 8 #[.val (.ref va), .val (.int 0), .val (.int 0), .unset, .unset] [(.int ((0 : Int32) - (0 : Int32)))])) _
    rw [show ((0 : Int32) - (0 : Int32)) = (0 : Int32) from by decide]
    show Steps _ _ _ (T1.setTop (mkF m 8 #[.val (.ref va), .val (.int 0), .val (.int 0), .unset, .unset] [(.int 0)])) _
    refine XS.istoreN X1.here hx rfl (hb hby d16_8) rfl (l' := #[.val (.ref va), .val (.int 0), .val (.int 0), .val (.int 0), .unset]) rfl ?_
    refine XS.iloadN X1.here hx rfl (hb hby d16_9) rfl  ?_
    show Steps _ _ _ (T1.setTop (mkF m 10 #[.val (.ref va), .val (.int 0), .val (.int 0), .val (.int 0), .unset] [(.int 0)])) _
    refine st2 _ ?_
    refine XS.astore X2.here hx rfl (hb hby d16_12) rfl rfl (l' := #[.val (.ref va), .val (.int 0), .val (.int 0), .val (.int 0), .val (.ref b2)]) rfl ?_
    refine XS.aloadN X2.here hx rfl (hb hby d16_14) rfl rfl ?_
    refine XS.iloadN X2.here hx rfl (hb hby d16_15) rfl  ?_
    refine XS.aload X2.here hx rfl (hb hby d16_16) rfl rfl ?_
    refine XS.iconst X2.here hx rfl (hb hby d16_18) ?_
    refine XS.aloadN X2.here hx rfl (hb hby d16_19) rfl rfl ?_
    show Steps _ _ _ (T2.setTop (mkF m 20 #[.val (.ref va), .val (.int 0), .val (.int 0), .val (.int 0), .val (.ref b2)] [(.ref va), (.int 0), (.ref b2), (.int 0), (.ref va)])) _
    refine X2.arraylength hx (by rw [e2]; exact Arc7.1) (State.isArrayOf_alike hZ.alike Arc7.2.1) (g := (mkF m 20 #[.val (.ref va), .val (.int 0), .val (.int 0), .val (.int 0), .val (.ref b2)] [(.ref va), (.int 0), (.ref b2), (.int 0), (.ref va)])) rfl rfl (hb hby d16_20) _ ?_
    rw [len_of Sc7 Mc7]
    show Steps _ _ _ (T2.setTop (mkF m 21 #[.val (.ref va), .val (.int 0), .val (.int 0), .val (.int 0), .val (.ref b2)] [(.int 16), (.int 0), (.ref b2), (.int 0), (.ref va)])) _
    refine XS.iloadN X2.here hx rfl (hb hby d16_21) rfl  ?_
    refine XS.isub X2.here hx rfl (hb hby d16_22) rfl ?_
    show Steps _ _ _ (T2.setTop (mkF m 23 #[.val (.ref va), .val (.int 0), .val (.int 0), .val (.int 0), .val (.ref b2)] [(.int ((16 : Int32) - (0 : Int32))), (.int 0), (.ref b2), (.int 0), (.ref va)])) _
    rw [show ((16 : Int32) - (0 : Int32)) = (16 : Int32) from by decide]
    show Steps _ _ _ (T2.setTop (mkF m 23 #[.val (.ref va), .val (.int 0), .val (.int 0), .val (.int 0), .val (.ref b2)] [(.int 16), (.int 0), (.ref b2), (.int 0), (.ref va)])) _
    refine XS.iloadN X2.here hx rfl (hb hby d16_23) rfl  ?_
    show Steps _ _ _ (T2.setTop (mkF m 24 #[.val (.ref va), .val (.int 0), .val (.int 0), .val (.int 0), .val (.ref b2)] [(.int 0), (.int 16), (.int 0), (.ref b2), (.int 0), (.ref va)])) _
    refine st8 _ ?_
    show Steps _ _ _ (T8.setTop (mkF m 27 #[.val (.ref va), .val (.int 0), .val (.int 0), .val (.int 0), .val (.ref b2)] [(.int 0), (.int 0), (.ref b2), (.int 0), (.ref va)])) _
    refine st9 _ ?_
    refine XS.aload X9.here hx rfl (hb hby d16_30) rfl rfl ?_
    show Steps _ _ _ (T9.setTop (mkF m 32 #[.val (.ref va), .val (.int 0), .val (.int 0), .val (.int 0), .val (.ref b2)] [(.ref b2)])) _
    jvm_step X9.here [X9.here.top, hx, (hb hby d16_32), X9.method', Bd.returns, Value.isRef, FieldType.isReference]
    first | (intro acts; rw [hrZ _ acts rfl rfl rfl]) | rw [hrZ _ _ rfl rfl rfl]
    exact Steps.refl _
  · show Q16n0 Z va kv y0 y1 y2 y3 h0 n0 _ T9.heap _
    rw [e9]
    exact ⟨b2, k2, rfl, N9, K11, gn_b2, sz_b2, U9⟩
theorem d15_0 : decode jdk_65_method_132_code 0 = .ok (.iload_n 1, 1) := by decide +kernel
theorem d15_1 : decode jdk_65_method_132_code 1 = .ok (.ifCond .ne 9, 3) := by decide +kernel
theorem d15_4 : decode jdk_65_method_132_code 4 = .ok (.iload_n 2, 1) := by decide +kernel
theorem d15_5 : decode jdk_65_method_132_code 5 = .ok (.aload_n 0, 1) := by decide +kernel
theorem d15_6 : decode jdk_65_method_132_code 6 = .ok (.arraylength, 1) := by decide +kernel
theorem d15_7 : decode jdk_65_method_132_code 7 = .ok (.if_icmp .eq 10, 3) := by decide +kernel
theorem d15_10 : decode jdk_65_method_132_code 10 = .ok (.aload_n 0, 1) := by decide +kernel
theorem d15_11 : decode jdk_65_method_132_code 11 = .ok (.iload_n 1, 1) := by decide +kernel
theorem d15_12 : decode jdk_65_method_132_code 12 = .ok (.iload_n 2, 1) := by decide +kernel
theorem d15_13 : decode jdk_65_method_132_code 13 = .ok (.invokestatic 339, 3) := by decide +kernel
theorem pd16 : parseMethodDescriptor "([BII)[B" = some ⟨[(.array .byte), .int, .int], some (.array .byte)⟩ := by decide +kernel
theorem d15_16 : decode jdk_65_method_132_code 16 = .ok (.areturn, 1) := by decide +kernel
theorem ef15n0 (m : MethodId) (va : Addr) : entryFrame m #[(.ref va), (.int 0), (.int 0)] 3 = mkF m 0 #[.val (.ref va), .val (.int 0), .val (.int 0)] [] := by first | (simp [entryFrame, mkF, argsToLocals, Value.category]; done) | rfl
def Q15n0 (Z : State) (va : Addr) (kv : ClassId) (y0 : Int32) (y1 : Int32) (y2 : Int32) (y3 : Int32) (h0 : Heap) (n0 : Nat) (v : Option Value) (h : Heap) (L : List Loc) : Prop := ∃ (vb : Addr) (kb : ClassId), v = some (.ref vb) ∧ Fr n0 L ∧ Keep h0 h [] ∧ n0 ≤ vb ∧ h0.size ≤ vb ∧ Arv Z h vb kb .byte (0 : Int32) [] (.int 0)
theorem rm15n0 (l : Launch) (Z : State) (a0 : Array Value) (hw : ∀ d ∈ tables_1, d.before a0 Z = true) (ws : List Jvm.Cond) (va : Addr) (kv : ClassId) (y0 : Int32) (y1 : Int32) (y2 : Int32) (y3 : Int32) (h0 : Heap) (n0 : Nat) (Z0 : n0 ≤ h0.size) (Vx1 : Arv Z h0 va kv .byte (16 : Int32) [(.int y0), (.int y1), (.int y2), (.int y3)] (.int 0)) :
    MetFree l oM24 (head1 (Jvm.Cond.code oM24 jdk_65_method_132_code 3 (some (.array .byte)) :: ws) oR11) (fun a U => a = #[(.ref va), (.int 0), (.int 0)] ∧ Z.Warmed39 U.vm ∧ U.heap = h0) (fun _ _ _ _ _ => True) (fun _ U o U' => ∃ v L, o = .returned v ∧ Q15n0 Z va kv y0 y1 y2 y3 h0 n0 v U'.heap L ∧ FrameEnd U o U' L oR11.cells oR11.slots) := by
  refine MetFree.of_bodySF (plainFor_of_name pn13) hisR ?_
  intro p e s m args below meth c s₁ Bd hml0 hP hK
  obtain ⟨rfl, hZ, hh⟩ := hP
  have hx := Bd.exec
  have hby := Bd.bytes
  have hml : c.maxLocals = 3 := hml0
  have hown : s.vm.findClass "java/util/Arrays" = some m.cls := findClass_of_methodNamed Bd.named
  have hnm := (name_of_methodNamed Bd.named Bd.method).1
  have X0 : Stand p l e oR11 s m #[(.ref va), (.int 0), (.int 0)] below meth c s₁ [] 0 0 := Stand.of_body Bd
  have e0 : s₁.heap = h0 := by rw [← hh, Bd.state]; rfl
  have N0 := Fr.nil n0
  have pre0 : ∀ tZ, Steps p.tables e below (s₁.setTop (mkF m 0 #[.val (.ref va), .val (.int 0), .val (.int 0)] [])) tZ → Steps p.tables e below (s₁.setTop (entryFrame m #[(.ref va), (.int 0), (.int 0)] 3)) tZ := fun tZ kZ => castTop (ef15n0 m va) kZ
  obtain ⟨c1, Arc1, -, Sc1, Mc1, -, -⟩ := id Vx1
  obtain ⟨_, _, ⟨T2, L2, k2, n2⟩, -, X2, ⟨Lc2, hQ2, l2, y2, z2⟩, st2⟩ := Jvm.LawKit.callS X0 hx (y := oM23) hown (mvT hZ (ow hw 99 rfl)) (mvT hZ (ow hw 100 rfl)) (mvT hZ (ow hw 97 rfl)) (mvT hZ (ow hw 101 rfl)) (by decide) (backOf (W := 0) (rm16n0 l Z a0 hw [] va kv y0 y1 y2 y3 h0 n0 Z0 Vx1) hZ (ow hw 101 rfl) (ow hw 97 rfl) (by decide) (by decide)) (g := (mkF m 13 #[.val (.ref va), .val (.int 0), .val (.int 0)] [(.int 0), (.int 0), (.ref va)])) rfl (by rw [hml]; rfl) (argsL := [(.ref va), (.int 0), (.int 0)]) (rest := []) (lenOf pd16 rfl) rfl (Nat.le_of_eq rfl) (hb hby d15_13) (fun _ _ => ⟨rfl, e0, (by decide : 0 + 1 ≤ _), (by decide : 0 + 0 ≤ _)⟩)
  dsimp only [Pt.U, Pt.locs, Pt.cells, Pt.slots] at X2 l2 y2 z2 st2 hQ2
  subst l2 y2 z2
  obtain ⟨vb_3, kb_4, rfl, N2q, K2, u2_0, u2_1, f2_0⟩ := hQ2
  have N2 := Fr.app N0 N2q
  have Z5 : n0 ≤ T2.heap.size := Nat.le_trans Z0 K2.1
  have K6 : Keep h0 T2.heap [] := (Keep.refl h0 []).trans K2 all0
  have ne7 : va ≠ vb_3 := Nat.ne_of_lt (Nat.lt_of_lt_of_le Vx1.lt u2_1)
  have sz_vb_3 : h0.size ≤ vb_3 := Nat.le_trans (Keep.refl h0 []).1 u2_1
  obtain ⟨fsZ, hrZ, hrun, hended, hW, hsame⟩ := X2.leave (v := some (.ref vb_3)) (fun h => by rw [Bd.returns] at h; cases h)
  refine ⟨_, _, pre0 _ ?_, hrun, hended, _, _, rfl, ?_, ⟨_, rfl⟩, hW, hsame.mono (by decide) (by decide)⟩
  · show Steps _ _ _ (s₁.setTop (mkF m 0 #[.val (.ref va), .val (.int 0), .val (.int 0)] [])) _
    refine XS.iloadN X0.here hx rfl (hb hby d15_0) rfl  ?_
    refine XS.ifNo X0.here hx rfl (hb hby d15_1) rfl ((if0 _ _).trans (teq (by decide)).2) ?_
    refine XS.iloadN X0.here hx rfl (hb hby d15_4) rfl  ?_
    refine XS.aloadN X0.here hx rfl (hb hby d15_5) rfl rfl ?_
    show Steps _ _ _ (s₁.setTop (mkF m 6 #[.val (.ref va), .val (.int 0), .val (.int 0)] [(.ref va), (.int 0)])) _
    refine X0.arraylength hx (by rw [e0]; exact Arc1.1) (State.isArrayOf_alike hZ.alike Arc1.2.1) (g := (mkF m 6 #[.val (.ref va), .val (.int 0), .val (.int 0)] [(.ref va), (.int 0)])) rfl rfl (hb hby d15_6) _ ?_
    rw [len_of Sc1 Mc1]
    show Steps _ _ _ (s₁.setTop (mkF m 7 #[.val (.ref va), .val (.int 0), .val (.int 0)] [(.int 16), (.int 0)])) _
    refine XS.icmpNo X0.here hx rfl (hb hby d15_7) rfl (feq (by decide)).1 ?_
    refine XS.aloadN X0.here hx rfl (hb hby d15_10) rfl rfl ?_
    refine XS.iloadN X0.here hx rfl (hb hby d15_11) rfl  ?_
    refine XS.iloadN X0.here hx rfl (hb hby d15_12) rfl  ?_
    show Steps _ _ _ (s₁.setTop (mkF m 13 #[.val (.ref va), .val (.int 0), .val (.int 0)] [(.int 0), (.int 0), (.ref va)])) _
    refine st2 _ ?_
    show Steps _ _ _ (T2.setTop (mkF m 16 #[.val (.ref va), .val (.int 0), .val (.int 0)] [(.ref vb_3)])) _
    jvm_step X2.here [X2.here.top, hx, (hb hby d15_16), X2.method', Bd.returns, Value.isRef, FieldType.isReference]
    first | (intro acts; rw [hrZ _ acts rfl rfl rfl]) | rw [hrZ _ _ rfl rfl rfl]
    exact Steps.refl _
  · show Q15n0 Z va kv y0 y1 y2 y3 h0 n0 _ T2.heap _
    exact ⟨vb_3, kb_4, rfl, N2, K6, u2_0, sz_vb_3, f2_0⟩
theorem pn17 : plainName "java/lang/String" = true := by first | (simp [plainName, overriddenIn]; done) | decide +kernel
theorem d10_0 : decode jdk_42_method_150_code 0 = .ok (.aload_n 0, 1) := by decide +kernel
theorem d10_1 : decode jdk_42_method_150_code 1 = .ok (.invokespecial 1, 3) := by decide +kernel
theorem d10_4 : decode jdk_42_method_150_code 4 = .ok (.aload_n 1, 1) := by decide +kernel
theorem d10_5 : decode jdk_42_method_150_code 5 = .ok (.invokevirtual 552, 3) := by decide +kernel
theorem pd18 : parseMethodDescriptor "()[B" = some ⟨[], some (.array .byte)⟩ := by decide +kernel
theorem d10_8 : decode jdk_42_method_150_code 8 = .ok (.astore_n 3, 1) := by decide +kernel
theorem d10_9 : decode jdk_42_method_150_code 9 = .ok (.aload_n 1, 1) := by decide +kernel
theorem d10_10 : decode jdk_42_method_150_code 10 = .ok (.invokevirtual 549, 3) := by decide +kernel
theorem d10_13 : decode jdk_42_method_150_code 13 = .ok (.istore 4, 2) := by decide +kernel
theorem d10_15 : decode jdk_42_method_150_code 15 = .ok (.aload_n 1, 1) := by decide +kernel
theorem d10_16 : decode jdk_42_method_150_code 16 = .ok (.invokevirtual 1047, 3) := by decide +kernel
theorem d10_19 : decode jdk_42_method_150_code 19 = .ok (.ifCond .eq 22, 3) := by decide +kernel
theorem d10_22 : decode jdk_42_method_150_code 22 = .ok (.aload_n 0, 1) := by decide +kernel
theorem d10_23 : decode jdk_42_method_150_code 23 = .ok (.iconst 0, 1) := by decide +kernel
theorem d10_24 : decode jdk_42_method_150_code 24 = .ok (.putfield 15, 3) := by decide +kernel
theorem d10_27 : decode jdk_42_method_150_code 27 = .ok (.aload_n 0, 1) := by decide +kernel
theorem d10_28 : decode jdk_42_method_150_code 28 = .ok (.aload_n 3, 1) := by decide +kernel
theorem d10_29 : decode jdk_42_method_150_code 29 = .ok (.iconst 0, 1) := by decide +kernel
theorem d10_30 : decode jdk_42_method_150_code 30 = .ok (.iload 4, 2) := by decide +kernel
theorem d10_32 : decode jdk_42_method_150_code 32 = .ok (.invokestatic 54, 3) := by decide +kernel
theorem d10_35 : decode jdk_42_method_150_code 35 = .ok (.putfield 9, 3) := by decide +kernel
theorem d10_38 : decode jdk_42_method_150_code 38 = .ok (.goto 59, 3) := by decide +kernel
theorem d10_97 : decode jdk_42_method_150_code 97 = .ok (.return_, 1) := by decide +kernel
theorem ef10n0 (m : MethodId) (sa : Addr) (b : Addr) : entryFrame m #[(.ref sa), (.ref b), .null] 5 = mkF m 0 #[.val (.ref sa), .val (.ref b), .val .null, .unset, .unset] [] := by first | (simp [entryFrame, mkF, argsToLocals, Value.category]; done) | rfl
def Q10n0 (Z : State) (sa : Addr) (b : Addr) (u1 : Value) (u2 : Value) (va : Addr) (kv : ClassId) (y0 : Int32) (y1 : Int32) (y2 : Int32) (y3 : Int32) (cs : Int32) (h0 : Heap) (n0 : Nat) (v : Option Value) (h : Heap) (L : List Loc) : Prop := ∃ (vb : Addr) (kb : ClassId), v = none ∧ Fr n0 L ∧ Keep h0 h [sa] ∧ n0 ≤ vb ∧ h0.size ≤ vb ∧ Exa Z h sa oS ∧ Fld Z h sa oS "coder" "B" (.int 0) ∧ Fld Z h sa oS "value" "[B" (.ref vb) ∧ Arv Z h vb kb .byte (0 : Int32) [] (.int 0)
theorem rm10n0 (l : Launch) (Z : State) (a0 : Array Value) (hw : ∀ d ∈ tables_1, d.before a0 Z = true) (ws : List Jvm.Cond) (sa : Addr) (b : Addr) (u1 : Value) (u2 : Value) (va : Addr) (kv : ClassId) (y0 : Int32) (y1 : Int32) (y2 : Int32) (y3 : Int32) (cs : Int32) (h0 : Heap) (n0 : Nat) (Z0 : n0 ≤ h0.size) (Ex0 : Exa Z h0 sa oS) (S1 : Fld Z h0 sa oS "coder" "B" u1) (S2 : Fld Z h0 sa oS "value" "[B" u2) (gx0 : n0 ≤ sa) (F0 : Exa Z h0 b oB) (F1 : Fld Z h0 b oA "value" "[B" (.ref va)) (F2 : Fld Z h0 b oA "coder" "B" (.int 0)) (F3 : Fld Z h0 b oA "count" "I" (.int 0)) (F4 : Arv Z h0 va kv .byte (16 : Int32) [(.int y0), (.int y1), (.int y2), (.int y3)] (.int 0)) (nx0_ : sa ≠ b) (nx1_ : sa ≠ va) (Cs : Sta Z Z.heap oS "COMPACT_STRINGS" "Z" (.int cs)) (hcs : ¬ (cs = (0 : Int32))) (Ox : Old Z n0 h0) :
    MetFree l oM25 (head1 (Jvm.Cond.code oM25 jdk_42_method_150_code 5 none :: ws) oR12) (fun a U => a = #[(.ref sa), (.ref b), .null] ∧ Z.Warmed39 U.vm ∧ U.heap = h0) (fun _ _ _ _ _ => True) (fun _ U o U' => ∃ v L, o = .returned v ∧ Q10n0 Z sa b u1 u2 va kv y0 y1 y2 y3 cs h0 n0 v U'.heap L ∧ FrameEnd U o U' L oR12.cells oR12.slots) := by
  refine MetFree.of_bodySF (plainFor_of_name pn17) hisR ?_
  intro p e s m args below meth c s₁ Bd hml0 hP hK
  obtain ⟨rfl, hZ, hh⟩ := hP
  have hx := Bd.exec
  have hby := Bd.bytes
  have hml : c.maxLocals = 5 := hml0
  have hown : s.vm.findClass oS = some m.cls := findClass_of_methodNamed Bd.named
  have hnm := (name_of_methodNamed Bd.named Bd.method).1
  have X0 : Stand p l e oR12 s m #[(.ref sa), (.ref b), .null] below meth c s₁ [] 0 0 := Stand.of_body Bd
  have e0 : s₁.heap = h0 := by rw [← hh, Bd.state]; rfl
  have N0 := Fr.nil n0
  have pre0 : ∀ tZ, Steps p.tables e below (s₁.setTop (mkF m 0 #[.val (.ref sa), .val (.ref b), .val .null, .unset, .unset] [])) tZ → Steps p.tables e below (s₁.setTop (entryFrame m #[(.ref sa), (.ref b), .null] 5)) tZ := fun tZ kZ => castTop (ef10n0 m sa b) kZ
  obtain ⟨T1, X1, e1, st1⟩ := initO X0 hx hZ hown (ow hw 72 rfl) (ow hw 16 rfl) (ow hw 17 rfl) e0 (g := (mkF m 1 #[.val (.ref sa), .val (.ref b), .val .null, .unset, .unset] [(.ref sa)])) rfl (by rw [hml]; rfl) rfl (hb hby d10_1) (by decide) (W := 0) (Nat.le_of_eq rfl) (by decide)
  obtain ⟨cq2, kq2, q2a, q2b, q2c⟩ := isOf hZ e1 F0
  obtain ⟨_, _, ⟨T2, L2, k2, n2⟩, -, X2, ⟨Lc2, hQ2, l2, y2, z2⟩, st2⟩ := X1.virtualBack hx (y := oM18) (z := oM18) hown (mvT hZ (ow hw 73 rfl)) (mvT hZ (ow hw 74 rfl)) (notFace_of_selects (args := #[]) (mvT hZ (ow hw 76 rfl))) (mvT hZ (ow hw 76 rfl)) (mvT hZ (ow hw 75 rfl)) (by decide) (backOf (W := 0) (rm11 l Z a0 hw [] b va h0 n0 Z0 F1) hZ (ow hw 77 rfl) (ow hw 51 rfl) (by decide) (by decide)) q2a q2c (g := (mkF m 5 #[.val (.ref sa), .val (.ref b), .val .null, .unset, .unset] [(.ref b)])) rfl (by rw [hml]; rfl) (Steps.refl _) (argsL := []) (rest := []) (lenOf pd18 rfl) rfl (Nat.le_of_eq rfl) (hb hby d10_5) (fun _ _ => ⟨rfl, e1, (by decide : 0 + 0 ≤ _), (by decide : 0 + 0 ≤ _)⟩)
  dsimp only [Pt.U, Pt.locs, Pt.cells, Pt.slots] at X2 l2 y2 z2 st2 hQ2
  subst l2 y2 z2
  obtain ⟨rfl, N2q, e2⟩ := hQ2
  have N2 := Fr.app N0 N2q
  obtain ⟨cq3, kq3, q3a, q3b, q3c⟩ := isOf hZ e2 F0
  obtain ⟨_, _, ⟨T3, L3, k3, n3⟩, -, X3, ⟨Lc3, hQ3, l3, y3, z3⟩, st3⟩ := X2.virtualBack hx (y := oM19) (z := oM20) hown (mvT hZ (ow hw 78 rfl)) (mvT hZ (ow hw 79 rfl)) (own_nf (mvT hZ (ow hw 76 rfl) (args := #[])) rfl) (mvT hZ (ow hw 81 rfl)) (mvT hZ (ow hw 82 rfl)) (by decide) (backOf (W := 0) (rm12 l Z a0 hw [] b (0 : Int32) h0 n0 Z0 F0 F3) hZ (ow hw 83 rfl) (ow hw 43 rfl) (by decide) (by decide)) q3a q3c (g := (mkF m 10 #[.val (.ref sa), .val (.ref b), .val .null, .val (.ref va), .unset] [(.ref b)])) rfl (by rw [hml]; rfl) (Steps.refl _) (argsL := []) (rest := []) (lenOf pd12 rfl) rfl (Nat.le_of_eq rfl) (hb hby d10_10) (fun _ _ => ⟨rfl, e2, (by decide : 0 + 0 ≤ _), (by decide : 0 + 0 ≤ _)⟩)
  dsimp only [Pt.U, Pt.locs, Pt.cells, Pt.slots] at X3 l3 y3 z3 st3 hQ3
  subst l3 y3 z3
  obtain ⟨rfl, N3q, e3⟩ := hQ3
  have N3 := Fr.app N2 N3q
  obtain ⟨cq4, kq4, q4a, q4b, q4c⟩ := isOf hZ e3 F0
  obtain ⟨_, _, ⟨T4, L4, k4, n4⟩, -, X4, ⟨Lc4, hQ4, l4, y4, z4⟩, st4⟩ := X3.virtualBack hx (y := oM9) (z := oM9) hown (mvT hZ (ow hw 89 rfl)) (mvT hZ (ow hw 90 rfl)) (notFace_of_selects (args := #[]) (mvT hZ (ow hw 92 rfl))) (mvT hZ (ow hw 92 rfl)) (mvT hZ (ow hw 91 rfl)) (by decide) (backOf (W := 0) (rm14 l Z a0 hw [] b cs h0 n0 Z0 F2 Cs (by first | assumption | decide | omega) Ox) hZ (ow hw 93 rfl) (ow hw 51 rfl) (by decide) (by decide)) q4a q4c (g := (mkF m 16 #[.val (.ref sa), .val (.ref b), .val .null, .val (.ref va), .val (.int 0)] [(.ref b)])) rfl (by rw [hml]; rfl) (Steps.refl _) (argsL := []) (rest := []) (lenOf pd2 rfl) rfl (Nat.le_of_eq rfl) (hb hby d10_16) (fun _ _ => ⟨rfl, e3, (by decide : 0 + 0 ≤ _), (by decide : 0 + 0 ≤ _)⟩)
  dsimp only [Pt.U, Pt.locs, Pt.cells, Pt.slots] at X4 l4 y4 z4 st4 hQ4
  subst l4 y4 z4
  obtain ⟨rfl, N4q, e4⟩ := hQ4
  have N4 := Fr.app N3 N4q
  obtain ⟨T5, h5, X5, e5, W5, st5⟩ := putFN X4 hx hZ hown (ow hw 94 rfl) Via.refl e4 S1 Ex0 (Or.inr ⟨(ow hw 6 rfl), rfl, hnm⟩) (ow hw 3 rfl) (ty := .byte) (v' := (.int 0)) (by decide) rfl (by decide) (g := (mkF m 24 #[.val (.ref sa), .val (.ref b), .val .null, .val (.ref va), .val (.int 0)] [(.int 0), (.ref sa)])) rfl rfl (hb hby d10_24)
  have fw5 : Fld Z h5 sa oS "coder" "B" (.int 0) := S1.same W5
  have Z6 : n0 ≤ h5.size := Nat.le_trans Z0 (Nat.le_of_eq W5.size.symm)
  have K7 : Keep h0 h5 [sa] := (Keep.refl h0 [sa]).wr W5 (Or.inl (List.mem_of_getElem? (i := 0) rfl))
  have N5 := Fr.snoc X5 N4 gx0
  have fa8 := (F4.other W5 (Ne.symm nx1_))
  obtain ⟨_, _, ⟨T9, L9, k9, n9⟩, -, X9, ⟨Lc9, hQ9, l9, y9, z9⟩, st9⟩ := Jvm.LawKit.callS X5 hx (y := oM24) hown (mvT hZ (ow hw 95 rfl)) (mvT hZ (ow hw 96 rfl)) (mvT hZ (ow hw 97 rfl)) (mvT hZ (ow hw 98 rfl)) (by decide) (backOf (W := 1) (rm15n0 l Z a0 hw [] va kv y0 y1 y2 y3 h5 n0 Z6 fa8) hZ (ow hw 98 rfl) (ow hw 97 rfl) (by decide) (by decide)) (g := (mkF m 32 #[.val (.ref sa), .val (.ref b), .val .null, .val (.ref va), .val (.int 0)] [(.int 0), (.int 0), (.ref va), (.ref sa)])) rfl (by rw [hml]; rfl) (argsL := [(.ref va), (.int 0), (.int 0)]) (rest := [(.ref sa)]) (lenOf pd16 rfl) rfl (Nat.le_of_eq rfl) (hb hby d10_32) (fun _ _ => ⟨rfl, e5, (by decide : 0 + 1 ≤ _), (by decide : 0 + 0 ≤ _)⟩)
  dsimp only [Pt.U, Pt.locs, Pt.cells, Pt.slots] at X9 l9 y9 z9 st9 hQ9
  subst l9 y9 z9
  obtain ⟨vb_10, kb_11, rfl, N9q, K9, u9_0, u9_1, f9_0⟩ := hQ9
  have N9 := Fr.app N5 N9q
  have Z12 : n0 ≤ T9.heap.size := Nat.le_trans Z6 K9.1
  have K13 : Keep h0 T9.heap [sa] := K7.trans K9 all0
  have ne14 : sa ≠ vb_10 := Nat.ne_of_lt (Nat.lt_of_lt_of_le (Ex0.wr W5).lt u9_1)
  have ne15 : b ≠ vb_10 := Nat.ne_of_lt (Nat.lt_of_lt_of_le (F0.wr W5).lt u9_1)
  have ne16 : va ≠ vb_10 := Nat.ne_of_lt (Nat.lt_of_lt_of_le fa8.lt u9_1)
  have sz_vb_10 : h0.size ≤ vb_10 := Nat.le_trans K7.1 u9_1
  have fa17 := ((S2.other W5 (Or.inr (slot_ne (Or.inr (ow hw 5 rfl)) (Or.inr (ow hw 6 rfl)) (by decide) (t := (.array .byte)) (t' := .byte) (by decide) (by decide)))).keep K9 nin0)
  have fa18 := ((Ex0.wr W5).keep K9)
  obtain ⟨T19, h19, X19, e19, W19, st19⟩ := putF X9 hx hZ hown (host := "") (Or.inl (ow hw 113 rfl)) Via.refl rfl fa17 fa18 (Or.inr ⟨(ow hw 5 rfl), rfl, hnm⟩) (ow hw 3 rfl) (ty := (.array .byte)) (by decide) rfl rfl (g := (mkF m 35 #[.val (.ref sa), .val (.ref b), .val .null, .val (.ref va), .val (.int 0)] [(.ref vb_10), (.ref sa)])) rfl rfl (hb hby d10_35)
  have fw19 : Fld Z h19 sa oS "value" "[B" (.ref vb_10) := fa17.same W19
  have Z20 : n0 ≤ h19.size := Nat.le_trans Z12 (Nat.le_of_eq W19.size.symm)
  have K21 : Keep h0 h19 [sa] := K13.wr W19 (Or.inl (List.mem_of_getElem? (i := 0) rfl))
  have N19 := Fr.snoc X19 N9 gx0
  obtain ⟨fsZ, hrZ, hrun, hended, hW, hsame⟩ := X19.leave (v := none) (fun _ => rfl)
  have fa22 := (fa18.wr W19)
  have fa23 := ((fw5.keep K9 nin0).other W19 (Or.inr (slot_ne (Or.inr (ow hw 6 rfl)) (Or.inr (ow hw 5 rfl)) (by decide) (t := .byte) (t' := (.array .byte)) (by decide) (by decide))))
  have fa24 := (f9_0.other W19 (Ne.symm ne14))
  refine ⟨_, _, pre0 _ ?_, hrun, hended, _, _, rfl, ?_, ⟨_, rfl⟩, hW, hsame.mono (by decide) (by decide)⟩
  · show Steps _ _ _ (s₁.setTop (mkF m 0 #[.val (.ref sa), .val (.ref b), .val .null, .unset, .unset] [])) _
    refine XS.aloadN X0.here hx rfl (hb hby d10_0) rfl rfl ?_
    show Steps _ _ _ (s₁.setTop (mkF m 1 #[.val (.ref sa), .val (.ref b), .val .null, .unset, .unset] [(.ref sa)])) _
    refine st1 _ ?_
    refine XS.aloadN X1.here hx rfl (hb hby d10_4) rfl rfl ?_
    show Steps _ _ _ (T1.setTop (mkF m 5 #[.val (.ref sa), .val (.ref b), .val .null, .unset, .unset] [(.ref b)])) _
    refine st2.trans ?_
    refine XS.astoreN X2.here hx rfl (hb hby d10_8) rfl rfl (l' := #[.val (.ref sa), .val (.ref b), .val .null, .val (.ref va), .unset]) rfl ?_
    refine XS.aloadN X2.here hx rfl (hb hby d10_9) rfl rfl ?_
    show Steps _ _ _ (T2.setTop (mkF m 10 #[.val (.ref sa), .val (.ref b), .val .null, .val (.ref va), .unset] [(.ref b)])) _
    refine st3.trans ?_
    refine XS.istore X3.here hx rfl (hb hby d10_13) rfl (l' := #[.val (.ref sa), .val (.ref b), .val .null, .val (.ref va), .val (.int 0)]) rfl ?_
    refine XS.aloadN X3.here hx rfl (hb hby d10_15) rfl rfl ?_
    show Steps _ _ _ (T3.setTop (mkF m 16 #[.val (.ref sa), .val (.ref b), .val .null, .val (.ref va), .val (.int 0)] [(.ref b)])) _
    refine st4.trans ?_
    refine XS.ifNo X4.here hx rfl (hb hby d10_19) rfl ((if0 _ _).trans (feq (by decide)).1) ?_
    refine XS.aloadN X4.here hx rfl (hb hby d10_22) rfl rfl ?_
    refine XS.iconst X4.here hx rfl (hb hby d10_23) ?_
    show Steps _ _ _ (T4.setTop (mkF m 24 #[.val (.ref sa), .val (.ref b), .val .null, .val (.ref va), .val (.int 0)] [(.int 0), (.ref sa)])) _
    refine st5 _ ?_
    refine XS.aloadN X5.here hx rfl (hb hby d10_27) rfl rfl ?_
    refine XS.aloadN X5.here hx rfl (hb hby d10_28) rfl rfl ?_
    refine XS.iconst X5.here hx rfl (hb hby d10_29) ?_
    refine XS.iload X5.here hx rfl (hb hby d10_30) rfl  ?_
    show Steps _ _ _ (T5.setTop (mkF m 32 #[.val (.ref sa), .val (.ref b), .val .null, .val (.ref va), .val (.int 0)] [(.int 0), (.int 0), (.ref va), (.ref sa)])) _
    refine st9 _ ?_
    show Steps _ _ _ (T9.setTop (mkF m 35 #[.val (.ref sa), .val (.ref b), .val .null, .val (.ref va), .val (.int 0)] [(.ref vb_10), (.ref sa)])) _
    refine st19 _ ?_
    refine XS.goto X19.here hx rfl (pc0 := 38) (pc' := 97) rfl (hb hby d10_38) (by decide) (by decide) ?_
    show Steps _ _ _ (T19.setTop (mkF m 97 #[.val (.ref sa), .val (.ref b), .val .null, .val (.ref va), .val (.int 0)] [])) _
    exact X19.returnOut hx Bd.returns (hb hby d10_97) hrZ
  · show Q10n0 Z sa b u1 u2 va kv y0 y1 y2 y3 cs h0 n0 _ T19.heap _
    rw [e19]
    exact ⟨vb_10, kb_11, rfl, N19, K21, u9_0, sz_vb_10, fa22, fa23, fw19, fa24⟩
theorem d9_0 : decode jdk_42_method_53_code 0 = .ok (.aload_n 0, 1) := by decide +kernel
theorem d9_1 : decode jdk_42_method_53_code 1 = .ok (.aload_n 1, 1) := by decide +kernel
theorem d9_2 : decode jdk_42_method_53_code 2 = .ok (.aconst_null, 1) := by decide +kernel
theorem d9_3 : decode jdk_42_method_53_code 3 = .ok (.invokespecial 489, 3) := by decide +kernel
theorem pd19 : parseMethodDescriptor "(Ljava/lang/AbstractStringBuilder;Ljava/lang/Void;)V" = some ⟨[(.object oA), (.object "java/lang/Void")], none⟩ := by decide +kernel
theorem d9_6 : decode jdk_42_method_53_code 6 = .ok (.return_, 1) := by decide +kernel
theorem ef9n0 (m : MethodId) (sa : Addr) (b : Addr) : entryFrame m #[(.ref sa), (.ref b)] 2 = mkF m 0 #[.val (.ref sa), .val (.ref b)] [] := by first | (simp [entryFrame, mkF, argsToLocals, Value.category]; done) | rfl
def Q9n0 (Z : State) (sa : Addr) (b : Addr) (u1 : Value) (u2 : Value) (va : Addr) (kv : ClassId) (y0 : Int32) (y1 : Int32) (y2 : Int32) (y3 : Int32) (cs : Int32) (h0 : Heap) (n0 : Nat) (v : Option Value) (h : Heap) (L : List Loc) : Prop := ∃ (vb : Addr) (kb : ClassId), v = none ∧ Fr n0 L ∧ Keep h0 h [sa] ∧ n0 ≤ vb ∧ h0.size ≤ vb ∧ Exa Z h sa oS ∧ Fld Z h sa oS "coder" "B" (.int 0) ∧ Fld Z h sa oS "value" "[B" (.ref vb) ∧ Arv Z h vb kb .byte (0 : Int32) [] (.int 0)
theorem rm9n0 (l : Launch) (Z : State) (a0 : Array Value) (hw : ∀ d ∈ tables_1, d.before a0 Z = true) (ws : List Jvm.Cond) (sa : Addr) (b : Addr) (u1 : Value) (u2 : Value) (va : Addr) (kv : ClassId) (y0 : Int32) (y1 : Int32) (y2 : Int32) (y3 : Int32) (cs : Int32) (h0 : Heap) (n0 : Nat) (Z0 : n0 ≤ h0.size) (Ex0 : Exa Z h0 sa oS) (S1 : Fld Z h0 sa oS "coder" "B" u1) (S2 : Fld Z h0 sa oS "value" "[B" u2) (gx0 : n0 ≤ sa) (F0 : Exa Z h0 b oB) (F1 : Fld Z h0 b oA "value" "[B" (.ref va)) (F2 : Fld Z h0 b oA "coder" "B" (.int 0)) (F3 : Fld Z h0 b oA "count" "I" (.int 0)) (F4 : Arv Z h0 va kv .byte (16 : Int32) [(.int y0), (.int y1), (.int y2), (.int y3)] (.int 0)) (nx0_ : sa ≠ b) (nx1_ : sa ≠ va) (Cs : Sta Z Z.heap oS "COMPACT_STRINGS" "Z" (.int cs)) (hcs : ¬ (cs = (0 : Int32))) (Ox : Old Z n0 h0) :
    MetFree l oM26 (head1 (Jvm.Cond.code oM26 jdk_42_method_53_code 2 none :: ws) oR13) (fun a U => a = #[(.ref sa), (.ref b)] ∧ Z.Warmed39 U.vm ∧ U.heap = h0) (fun _ _ _ _ _ => True) (fun _ U o U' => ∃ v L, o = .returned v ∧ Q9n0 Z sa b u1 u2 va kv y0 y1 y2 y3 cs h0 n0 v U'.heap L ∧ FrameEnd U o U' L oR13.cells oR13.slots) := by
  refine MetFree.of_bodySF (plainFor_of_name pn17) hisR ?_
  intro p e s m args below meth c s₁ Bd hml0 hP hK
  obtain ⟨rfl, hZ, hh⟩ := hP
  have hx := Bd.exec
  have hby := Bd.bytes
  have hml : c.maxLocals = 2 := hml0
  have hown : s.vm.findClass oS = some m.cls := findClass_of_methodNamed Bd.named
  have hnm := (name_of_methodNamed Bd.named Bd.method).1
  have X0 : Stand p l e oR13 s m #[(.ref sa), (.ref b)] below meth c s₁ [] 0 0 := Stand.of_body Bd
  have e0 : s₁.heap = h0 := by rw [← hh, Bd.state]; rfl
  have N0 := Fr.nil n0
  have pre0 : ∀ tZ, Steps p.tables e below (s₁.setTop (mkF m 0 #[.val (.ref sa), .val (.ref b)] [])) tZ → Steps p.tables e below (s₁.setTop (entryFrame m #[(.ref sa), (.ref b)] 2)) tZ := fun tZ kZ => castTop (ef9n0 m sa b) kZ
  obtain ⟨_, _, ⟨T1, L1, k1, n1⟩, -, X1, ⟨Lc1, hQ1, l1, y1, z1⟩, st1⟩ := X0.specialBack hx (y := oM25) rfl hown (mvT hZ (ow hw 69 rfl)) (mvT hZ (ow hw 70 rfl)) (mvT hZ (ow hw 71 rfl)) (by decide) (backOf (W := 0) (rm10n0 l Z a0 hw [] sa b u1 u2 va kv y0 y1 y2 y3 cs h0 n0 Z0 Ex0 S1 S2 gx0 F0 F1 F2 F3 F4 nx0_ nx1_ Cs (by first | assumption | decide | omega) Ox) hZ (ow hw 71 rfl) (ow hw 2 rfl) (by decide) (by decide)) (g := (mkF m 3 #[.val (.ref sa), .val (.ref b)] [.null, (.ref b), (.ref sa)])) rfl (by rw [hml]; rfl) (Steps.refl _) (a := sa) (argsL := [(.ref b), .null]) (rest := []) (lenOf pd19 rfl) rfl (Nat.le_of_eq rfl) (hb hby d9_3) (fun _ _ => ⟨rfl, e0, (by decide : 0 + 1 ≤ _), (by decide : 0 + 0 ≤ _)⟩)
  dsimp only [Pt.U, Pt.locs, Pt.cells, Pt.slots] at X1 l1 y1 z1 st1 hQ1
  subst l1 y1 z1
  obtain ⟨vb_2, kb_3, rfl, N1q, K1, u1_0, u1_1, f1_0, f1_1, f1_2, f1_3⟩ := hQ1
  have N1 := Fr.app N0 N1q
  have Z4 : n0 ≤ T1.heap.size := Nat.le_trans Z0 K1.1
  have K5 : Keep h0 T1.heap [sa] := (Keep.refl h0 [sa]).trans K1 (allS (P := fun x => x ∈ _ ∨ _) (Or.inl (List.mem_of_getElem? (i := 0) rfl)) all0)
  have ne6 : sa ≠ vb_2 := Nat.ne_of_lt (Nat.lt_of_lt_of_le Ex0.lt u1_1)
  have ne7 : b ≠ vb_2 := Nat.ne_of_lt (Nat.lt_of_lt_of_le F0.lt u1_1)
  have ne8 : va ≠ vb_2 := Nat.ne_of_lt (Nat.lt_of_lt_of_le F4.lt u1_1)
  have sz_vb_2 : h0.size ≤ vb_2 := Nat.le_trans (Keep.refl h0 [sa]).1 u1_1
  obtain ⟨fsZ, hrZ, hrun, hended, hW, hsame⟩ := X1.leave (v := none) (fun _ => rfl)
  refine ⟨_, _, pre0 _ ?_, hrun, hended, _, _, rfl, ?_, ⟨_, rfl⟩, hW, hsame.mono (by decide) (by decide)⟩
  · show Steps _ _ _ (s₁.setTop (mkF m 0 #[.val (.ref sa), .val (.ref b)] [])) _
    refine XS.aloadN X0.here hx rfl (hb hby d9_0) rfl rfl ?_
    refine XS.aloadN X0.here hx rfl (hb hby d9_1) rfl rfl ?_
    refine XS.aconstNull X0.here hx rfl (hb hby d9_2) ?_
    show Steps _ _ _ (s₁.setTop (mkF m 3 #[.val (.ref sa), .val (.ref b)] [.null, (.ref b), (.ref sa)])) _
    refine st1.trans ?_
    show Steps _ _ _ (T1.setTop (mkF m 6 #[.val (.ref sa), .val (.ref b)] [])) _
    exact X1.returnOut hx Bd.returns (hb hby d9_6) hrZ
  · show Q9n0 Z sa b u1 u2 va kv y0 y1 y2 y3 cs h0 n0 _ T1.heap _
    exact ⟨vb_2, kb_3, rfl, N1, K5, u1_0, sz_vb_2, f1_0, f1_1, f1_2, f1_3⟩
theorem d8_0 : decode jdk_67_method_42_code 0 = .ok (.new 18, 3) := by decide +kernel
theorem d8_3 : decode jdk_67_method_42_code 3 = .ok (.dup, 1) := by decide +kernel
theorem d8_4 : decode jdk_67_method_42_code 4 = .ok (.aload_n 0, 1) := by decide +kernel
theorem d8_5 : decode jdk_67_method_42_code 5 = .ok (.invokespecial 137, 3) := by decide +kernel
theorem pd20 : parseMethodDescriptor "(Ljava/lang/StringBuilder;)V" = some ⟨[(.object oB)], none⟩ := by decide +kernel
theorem d8_8 : decode jdk_67_method_42_code 8 = .ok (.areturn, 1) := by decide +kernel
theorem ef8n0 (m : MethodId) (b : Addr) : entryFrame m #[(.ref b)] 1 = mkF m 0 #[.val (.ref b)] [] := by first | (simp [entryFrame, mkF, argsToLocals, Value.category]; done) | rfl
def Q8n0 (Z : State) (b : Addr) (va : Addr) (kv : ClassId) (y0 : Int32) (y1 : Int32) (y2 : Int32) (y3 : Int32) (cs : Int32) (h0 : Heap) (n0 : Nat) (v : Option Value) (h : Heap) (L : List Loc) : Prop := ∃ (sa : Addr) (vb : Addr) (kb : ClassId), v = some (.ref sa) ∧ Fr n0 L ∧ Keep h0 h [] ∧ n0 ≤ sa ∧ h0.size ≤ sa ∧ n0 ≤ vb ∧ h0.size ≤ vb ∧ Exa Z h sa oS ∧ Fld Z h sa oS "coder" "B" (.int 0) ∧ Fld Z h sa oS "value" "[B" (.ref vb) ∧ Arv Z h vb kb .byte (0 : Int32) [] (.int 0)
theorem rm8n0 (l : Launch) (Z : State) (a0 : Array Value) (hw : ∀ d ∈ tables_1, d.before a0 Z = true) (ws : List Jvm.Cond) (b : Addr) (va : Addr) (kv : ClassId) (y0 : Int32) (y1 : Int32) (y2 : Int32) (y3 : Int32) (cs : Int32) (h0 : Heap) (n0 : Nat) (Z0 : n0 ≤ h0.size) (F0 : Exa Z h0 b oB) (F1 : Fld Z h0 b oA "value" "[B" (.ref va)) (F2 : Fld Z h0 b oA "coder" "B" (.int 0)) (F3 : Fld Z h0 b oA "count" "I" (.int 0)) (F4 : Arv Z h0 va kv .byte (16 : Int32) [(.int y0), (.int y1), (.int y2), (.int y3)] (.int 0)) (Cs : Sta Z Z.heap oS "COMPACT_STRINGS" "Z" (.int cs)) (hcs : ¬ (cs = (0 : Int32))) (Ox : Old Z n0 h0) :
    MetFree l oM27 (head1 (Jvm.Cond.code oM27 jdk_67_method_42_code 1 (some (.object oS)) :: ws) oR14) (fun a U => a = #[(.ref b)] ∧ Z.Warmed39 U.vm ∧ U.heap = h0) (fun _ _ _ _ _ => True) (fun _ U o U' => ∃ v L, o = .returned v ∧ Q8n0 Z b va kv y0 y1 y2 y3 cs h0 n0 v U'.heap L ∧ FrameEnd U o U' L oR14.cells oR14.slots) := by
  refine MetFree.of_bodySF (plainFor_of_name pn4) hisR ?_
  intro p e s m args below meth c s₁ Bd hml0 hP hK
  obtain ⟨rfl, hZ, hh⟩ := hP
  have hx := Bd.exec
  have hby := Bd.bytes
  have hml : c.maxLocals = 1 := hml0
  have hown : s.vm.findClass oB = some m.cls := findClass_of_methodNamed Bd.named
  have hnm := (name_of_methodNamed Bd.named Bd.method).1
  have X0 : Stand p l e oR14 s m #[(.ref b)] below meth c s₁ [] 0 0 := Stand.of_body Bd
  have e0 : s₁.heap = h0 := by rw [← hh, Bd.state]; rfl
  have N0 := Fr.nil n0
  have pre0 : ∀ tZ, Steps p.tables e below (s₁.setTop (mkF m 0 #[.val (.ref b)] [])) tZ → Steps p.tables e below (s₁.setTop (entryFrame m #[(.ref b)] 1)) tZ := fun tZ kZ => castTop (ef8n0 m b) kZ
  obtain ⟨T1, h1, X1, e1, E1, A1, D1, -, st1⟩ := newO X0 hx hZ hown (ow hw 64 rfl) (ow hw 3 rfl) (ow hw 2 rfl) e0 (g := (mkF m 0 #[.val (.ref b)] [])) rfl (hb hby d8_0) (by decide) (by decide)
  obtain ⟨b1, g1⟩ : ∃ z, z = h0.size := ⟨_, rfl⟩
  rw [← g1] at A1 D1 st1
  have ne2 : b ≠ b1 := Nat.ne_of_lt (Nat.lt_of_lt_of_le F0.lt (Nat.le_of_eq g1.symm))
  have ne3 : va ≠ b1 := Nat.ne_of_lt (Nat.lt_of_lt_of_le F4.lt (Nat.le_of_eq g1.symm))
  have gn_b1 : n0 ≤ b1 := Nat.le_trans Z0 (Nat.le_of_eq g1.symm)
  have sz_b1 : h0.size ≤ b1 := Nat.le_trans (Keep.refl h0 []).1 (Nat.le_of_eq g1.symm)
  have Z4 : n0 ≤ h1.size := Nat.le_trans Z0 E1.1
  have K5 : Keep h0 h1 [] := (Keep.refl h0 []).ext E1
  have F_value_b1 : Fld Z h1 b1 oS "value" "[B" .null := D1 (Or.inr (ow hw 5 rfl)) (ty := (.array .byte)) (by decide)
  have F_coder_b1 : Fld Z h1 b1 oS "coder" "B" (.int 0) := D1 (Or.inr (ow hw 6 rfl)) (ty := .byte) (by decide)
  have fa6 := (F0.ext E1)
  have fa7 := (F1.ext E1)
  have fa8 := (F2.ext E1)
  have fa9 := (F3.ext E1)
  have fa10 := (F4.ext E1)
  have fa11 := (Ox.ext E1)
  obtain ⟨_, _, ⟨T12, L12, k12, n12⟩, -, X12, ⟨Lc12, hQ12, l12, y12, z12⟩, st12⟩ := X1.specialBack hx (y := oM26) rfl hown (mvT hZ (ow hw 65 rfl)) (mvT hZ (ow hw 66 rfl)) (mvT hZ (ow hw 68 rfl)) (by decide) (backOf (W := 1) (rm9n0 l Z a0 hw [] b1 b (.int 0) .null va kv y0 y1 y2 y3 cs h1 n0 Z4 A1 F_coder_b1 F_value_b1 gn_b1 fa6 fa7 fa8 fa9 fa10 (Ne.symm ne2) (Ne.symm ne3) Cs (by first | assumption | decide | omega) fa11) hZ (ow hw 68 rfl) (ow hw 2 rfl) (by decide) (by decide)) (g := (mkF m 5 #[.val (.ref b)] [(.ref b), (.ref b1), (.ref b1)])) rfl (by rw [hml]; rfl) (Steps.refl _) (a := b1) (argsL := [(.ref b)]) (rest := [(.ref b1)]) (lenOf pd20 rfl) rfl (Nat.le_of_eq rfl) (hb hby d8_5) (fun _ _ => ⟨rfl, e1, (by decide : 1 + 1 ≤ _), (by decide : 4 + 0 ≤ _)⟩)
  dsimp only [Pt.U, Pt.locs, Pt.cells, Pt.slots] at X12 l12 y12 z12 st12 hQ12
  subst l12 y12 z12
  obtain ⟨vb_13, kb_14, rfl, N12q, K12, u12_0, u12_1, f12_0, f12_1, f12_2, f12_3⟩ := hQ12
  have N12 := Fr.app N0 N12q
  have Z15 : n0 ≤ T12.heap.size := Nat.le_trans Z4 K12.1
  have K16 : Keep h0 T12.heap [] := K5.trans K12 (allS (P := fun x => x ∈ _ ∨ _) (Or.inr sz_b1) all0)
  have ne17 : b ≠ vb_13 := Nat.ne_of_lt (Nat.lt_of_lt_of_le fa6.lt u12_1)
  have ne18 : va ≠ vb_13 := Nat.ne_of_lt (Nat.lt_of_lt_of_le fa10.lt u12_1)
  have ne19 : b1 ≠ vb_13 := Nat.ne_of_lt (Nat.lt_of_lt_of_le A1.lt u12_1)
  have sz_vb_13 : h0.size ≤ vb_13 := Nat.le_trans K5.1 u12_1
  obtain ⟨fsZ, hrZ, hrun, hended, hW, hsame⟩ := X12.leave (v := some (.ref b1)) (fun h => by rw [Bd.returns] at h; cases h)
  refine ⟨_, _, pre0 _ ?_, hrun, hended, _, _, rfl, ?_, ⟨_, rfl⟩, hW, hsame.mono (by decide) (by decide)⟩
  · show Steps _ _ _ (s₁.setTop (mkF m 0 #[.val (.ref b)] [])) _
    refine st1 _ ?_
    refine XS.dup X1.here hx rfl (hb hby d8_3) rfl rfl ?_
    refine XS.aloadN X1.here hx rfl (hb hby d8_4) rfl rfl ?_
    show Steps _ _ _ (T1.setTop (mkF m 5 #[.val (.ref b)] [(.ref b), (.ref b1), (.ref b1)])) _
    refine st12.trans ?_
    show Steps _ _ _ (T12.setTop (mkF m 8 #[.val (.ref b)] [(.ref b1)])) _
    jvm_step X12.here [X12.here.top, hx, (hb hby d8_8), X12.method', Bd.returns, Value.isRef, FieldType.isReference]
    first | (intro acts; rw [hrZ _ acts rfl rfl rfl]) | rw [hrZ _ _ rfl rfl rfl]
    exact Steps.refl _
  · show Q8n0 Z b va kv y0 y1 y2 y3 cs h0 n0 _ T12.heap _
    exact ⟨b1, vb_13, kb_14, rfl, N12, K16, gn_b1, sz_b1, u12_0, sz_vb_13, f12_0, f12_1, f12_2, f12_3⟩
theorem ef16n2 (m : MethodId) (va : Addr) : entryFrame m #[(.ref va), (.int 0), (.int 2)] 5 = mkF m 0 #[.val (.ref va), .val (.int 0), .val (.int 2), .unset, .unset] [] := by first | (simp [entryFrame, mkF, argsToLocals, Value.category]; done) | rfl
def Q16n2 (Z : State) (va : Addr) (kv : ClassId) (y0 : Int32) (y1 : Int32) (y2 : Int32) (y3 : Int32) (h0 : Heap) (n0 : Nat) (v : Option Value) (h : Heap) (L : List Loc) : Prop := ∃ (vb : Addr) (kb : ClassId), v = some (.ref vb) ∧ Fr n0 L ∧ Keep h0 h [] ∧ n0 ≤ vb ∧ h0.size ≤ vb ∧ Arv Z h vb kb .byte (2 : Int32) [(.int y0), (.int y1)] (.int 0)
theorem rm16n2 (l : Launch) (Z : State) (a0 : Array Value) (hw : ∀ d ∈ tables_1, d.before a0 Z = true) (ws : List Jvm.Cond) (va : Addr) (kv : ClassId) (y0 : Int32) (y1 : Int32) (y2 : Int32) (y3 : Int32) (h0 : Heap) (n0 : Nat) (Z0 : n0 ≤ h0.size) (Vx1 : Arv Z h0 va kv .byte (16 : Int32) [(.int y0), (.int y1), (.int y2), (.int y3)] (.int 0)) :
    MetFree l oM23 (head1 (Jvm.Cond.code oM23 jdk_65_method_133_code 5 (some (.array .byte)) :: ws) oR15) (fun a U => a = #[(.ref va), (.int 0), (.int 2)] ∧ Z.Warmed39 U.vm ∧ U.heap = h0) (fun _ _ _ _ _ => True) (fun _ U o U' => ∃ v L, o = .returned v ∧ Q16n2 Z va kv y0 y1 y2 y3 h0 n0 v U'.heap L ∧ FrameEnd U o U' L oR15.cells oR15.slots) := by
  refine MetFree.of_bodySF (plainFor_of_name pn13) hisR ?_
  intro p e s m args below meth c s₁ Bd hml0 hP hK
  obtain ⟨rfl, hZ, hh⟩ := hP
  have hx := Bd.exec
  have hby := Bd.bytes
  have hml : c.maxLocals = 5 := hml0
  have hown : s.vm.findClass "java/util/Arrays" = some m.cls := findClass_of_methodNamed Bd.named
  have hnm := (name_of_methodNamed Bd.named Bd.method).1
  have X0 : Stand p l e oR15 s m #[(.ref va), (.int 0), (.int 2)] below meth c s₁ [] 0 0 := Stand.of_body Bd
  have e0 : s₁.heap = h0 := by rw [← hh, Bd.state]; rfl
  have N0 := Fr.nil n0
  have pre0 : ∀ tZ, Steps p.tables e below (s₁.setTop (mkF m 0 #[.val (.ref va), .val (.int 0), .val (.int 2), .unset, .unset] [])) tZ → Steps p.tables e below (s₁.setTop (entryFrame m #[(.ref va), (.int 0), (.int 2)] 5)) tZ := fun tZ kZ => castTop (ef16n2 m va) kZ
  obtain ⟨_, _, ⟨T1, L1, k1, n1⟩, -, X1, ⟨Lc1, hQ1, l1, y1, z1⟩, st1⟩ := Jvm.LawKit.callS X0 hx (y := oM21) hown (mvT hZ (ow hw 102 rfl)) (mvT hZ (ow hw 103 rfl)) (mvT hZ (ow hw 97 rfl)) (mvT hZ (ow hw 104 rfl)) (by decide) (backOf (W := 0) (rm17 l Z a0 hw [] (2 : Int32) h0 n0 Z0 (by first | assumption | decide | omega)) hZ (ow hw 104 rfl) (ow hw 97 rfl) (by decide) (by decide)) (g := (mkF m 2 #[.val (.ref va), .val (.int 0), .val (.int 2), .unset, .unset] [(.int 2), (.int 0)])) rfl (by rw [hml]; rfl) (argsL := [(.int 0), (.int 2)]) (rest := []) (lenOf pd14 rfl) rfl (Nat.le_of_eq rfl) (hb hby d16_2) (fun _ _ => ⟨rfl, e0, (by decide : 0 + 0 ≤ _), (by decide : 0 + 0 ≤ _)⟩)
  dsimp only [Pt.U, Pt.locs, Pt.cells, Pt.slots] at X1 l1 y1 z1 st1 hQ1
  subst l1 y1 z1
  obtain ⟨rfl, N1q, e1⟩ := hQ1
  have N1 := Fr.app N0 N1q
  obtain ⟨T2, h2, k2, X2, e2, E2, A2, st2⟩ := newP X1 hx hZ (ow hw 4 rfl) e1 (g := (mkF m 10 #[.val (.ref va), .val (.int 0), .val (.int 2), .val (.int 2), .unset] [(.int 2)])) rfl (hb hby d16_10) rfl (by decide) (cap := 2) (by decide) (by decide) (by decide) (by decide)
  obtain ⟨b2, g2⟩ : ∃ z, z = h0.size := ⟨_, rfl⟩
  rw [← g2] at A2 st2
  have ne3 : va ≠ b2 := Nat.ne_of_lt (Nat.lt_of_lt_of_le Vx1.lt (Nat.le_of_eq g2.symm))
  have gn_b2 : n0 ≤ b2 := Nat.le_trans Z0 (Nat.le_of_eq g2.symm)
  have sz_b2 : h0.size ≤ b2 := Nat.le_trans (Keep.refl h0 []).1 (Nat.le_of_eq g2.symm)
  have Z4 : n0 ≤ h2.size := Nat.le_trans Z0 E2.1
  have K5 : Keep h0 h2 [] := (Keep.refl h0 []).ext E2
  have V2 : Arv Z h2 b2 k2 .byte (2 : Int32) [(.int 0), (.int 0)] (.int 0) := (Arv.new A2 (by decide)).pad (pad_rep [] (.int 0) 2)
  have fa6 := (Vx1.ext E2)
  obtain ⟨c7, Arc7, -, Sc7, Mc7, -, -⟩ := id fa6
  obtain ⟨_, _, ⟨T8, L8, k8, n8⟩, -, X8, ⟨Lc8, hQ8, l8, y8, z8⟩, st8⟩ := Jvm.LawKit.callS X2 hx (y := oM22) hown (mvT hZ (ow hw 105 rfl)) (mvT hZ (ow hw 106 rfl)) (mvT hZ (ow hw 107 rfl)) (mvT hZ (ow hw 108 rfl)) (by decide) (backOf (W := 4) (rm18 l Z a0 hw [] (2 : Int32) h2 n0 Z4 (by first | assumption | decide | omega)) hZ (ow hw 108 rfl) (ow hw 107 rfl) (by decide) (by decide)) (g := (mkF m 24 #[.val (.ref va), .val (.int 0), .val (.int 2), .val (.int 2), .val (.ref b2)] [(.int 2), (.int 16), (.int 0), (.ref b2), (.int 0), (.ref va)])) rfl (by rw [hml]; rfl) (argsL := [(.int 16), (.int 2)]) (rest := [(.int 0), (.ref b2), (.int 0), (.ref va)]) (lenOf pd15 rfl) rfl (Nat.le_of_eq rfl) (hb hby d16_24) (fun _ _ => ⟨rfl, e2, (by decide : 1 + 0 ≤ _), (by decide : 2 + 0 ≤ _)⟩)
  dsimp only [Pt.U, Pt.locs, Pt.cells, Pt.slots] at X8 l8 y8 z8 st8 hQ8
  subst l8 y8 z8
  obtain ⟨rfl, N8q, e8⟩ := hQ8
  have N8 := Fr.app N1 N8q
  obtain ⟨T9, h9, L9, X9, e9, N9, K9, V9, st9⟩ := cpA X8 hx hZ hown (ow hw 109 rfl) (ow hw 112 rfl) (ow hw 110 rfl) (ow hw 111 rfl) e8 fa6 V2 (us := [(.int y0), (.int y1)]) (Or.inl ⟨rfl, rfl⟩) (by decide) (by decide) (by decide) (by decide) (by decide) rfl (by decide) N8 gn_b2 (g := (mkF m 27 #[.val (.ref va), .val (.int 0), .val (.int 2), .val (.int 2), .val (.ref b2)] [(.int 2), (.int 0), (.ref b2), (.int 0), (.ref va)])) rfl (by rw [hml]; rfl) rfl (hb hby d16_27) (by decide) (W := 0) (Nat.le_of_eq rfl) (by decide)
  have Z10 : n0 ≤ h9.size := Nat.le_trans Z4 K9.1
  have K11 : Keep h0 h9 [] := K5.trans K9 (allS (P := fun x => x ∈ _ ∨ _) (Or.inr sz_b2) all0)
  have U9 : Arv Z h9 b2 k2 .byte (2 : Int32) [(.int y0), (.int y1)] (.int 0) := V9
  obtain ⟨fsZ, hrZ, hrun, hended, hW, hsame⟩ := X9.leave (v := some (.ref b2)) (fun h => by rw [Bd.returns] at h; cases h)
  refine ⟨_, _, pre0 _ ?_, hrun, hended, _, _, rfl, ?_, ⟨_, rfl⟩, hW, hsame.mono (by decide) (by decide)⟩
  · show Steps _ _ _ (s₁.setTop (mkF m 0 #[.val (.ref va), .val (.int 0), .val (.int 2), .unset, .unset] [])) _
    refine XS.iloadN X0.here hx rfl (hb hby d16_0) rfl  ?_
    refine XS.iloadN X0.here hx rfl (hb hby d16_1) rfl  ?_
    show Steps _ _ _ (s₁.setTop (mkF m 2 #[.val (.ref va), .val (.int 0), .val (.int 2), .unset, .unset] [(.int 2), (.int 0)])) _
    refine st1 _ ?_
    refine XS.iloadN X1.here hx rfl (hb hby d16_5) rfl  ?_
    refine XS.iloadN X1.here hx rfl (hb hby d16_6) rfl  ?_
    refine XS.isub X1.here hx rfl (hb hby d16_7) rfl ?_
    show Steps _ _ _ (T1.setTop (mkF m 8 #[.val (.ref va), .val (.int 0), .val (.int 2), .unset, .unset] [(.int ((2 : Int32) - (0 : Int32)))])) _
    rw [show ((2 : Int32) - (0 : Int32)) = (2 : Int32) from by decide]
    show Steps _ _ _ (T1.setTop (mkF m 8 #[.val (.ref va), .val (.int 0), .val (.int 2), .unset, .unset] [(.int 2)])) _
    refine XS.istoreN X1.here hx rfl (hb hby d16_8) rfl (l' := #[.val (.ref va), .val (.int 0), .val (.int 2), .val (.int 2), .unset]) rfl ?_
    refine XS.iloadN X1.here hx rfl (hb hby d16_9) rfl  ?_
    show Steps _ _ _ (T1.setTop (mkF m 10 #[.val (.ref va), .val (.int 0), .val (.int 2), .val (.int 2), .unset] [(.int 2)])) _
    refine st2 _ ?_
    refine XS.astore X2.here hx rfl (hb hby d16_12) rfl rfl (l' := #[.val (.ref va), .val (.int 0), .val (.int 2), .val (.int 2), .val (.ref b2)]) rfl ?_
    refine XS.aloadN X2.here hx rfl (hb hby d16_14) rfl rfl ?_
    refine XS.iloadN X2.here hx rfl (hb hby d16_15) rfl  ?_
    refine XS.aload X2.here hx rfl (hb hby d16_16) rfl rfl ?_
    refine XS.iconst X2.here hx rfl (hb hby d16_18) ?_
    refine XS.aloadN X2.here hx rfl (hb hby d16_19) rfl rfl ?_
    show Steps _ _ _ (T2.setTop (mkF m 20 #[.val (.ref va), .val (.int 0), .val (.int 2), .val (.int 2), .val (.ref b2)] [(.ref va), (.int 0), (.ref b2), (.int 0), (.ref va)])) _
    refine X2.arraylength hx (by rw [e2]; exact Arc7.1) (State.isArrayOf_alike hZ.alike Arc7.2.1) (g := (mkF m 20 #[.val (.ref va), .val (.int 0), .val (.int 2), .val (.int 2), .val (.ref b2)] [(.ref va), (.int 0), (.ref b2), (.int 0), (.ref va)])) rfl rfl (hb hby d16_20) _ ?_
    rw [len_of Sc7 Mc7]
    show Steps _ _ _ (T2.setTop (mkF m 21 #[.val (.ref va), .val (.int 0), .val (.int 2), .val (.int 2), .val (.ref b2)] [(.int 16), (.int 0), (.ref b2), (.int 0), (.ref va)])) _
    refine XS.iloadN X2.here hx rfl (hb hby d16_21) rfl  ?_
    refine XS.isub X2.here hx rfl (hb hby d16_22) rfl ?_
    show Steps _ _ _ (T2.setTop (mkF m 23 #[.val (.ref va), .val (.int 0), .val (.int 2), .val (.int 2), .val (.ref b2)] [(.int ((16 : Int32) - (0 : Int32))), (.int 0), (.ref b2), (.int 0), (.ref va)])) _
    rw [show ((16 : Int32) - (0 : Int32)) = (16 : Int32) from by decide]
    show Steps _ _ _ (T2.setTop (mkF m 23 #[.val (.ref va), .val (.int 0), .val (.int 2), .val (.int 2), .val (.ref b2)] [(.int 16), (.int 0), (.ref b2), (.int 0), (.ref va)])) _
    refine XS.iloadN X2.here hx rfl (hb hby d16_23) rfl  ?_
    show Steps _ _ _ (T2.setTop (mkF m 24 #[.val (.ref va), .val (.int 0), .val (.int 2), .val (.int 2), .val (.ref b2)] [(.int 2), (.int 16), (.int 0), (.ref b2), (.int 0), (.ref va)])) _
    refine st8 _ ?_
    show Steps _ _ _ (T8.setTop (mkF m 27 #[.val (.ref va), .val (.int 0), .val (.int 2), .val (.int 2), .val (.ref b2)] [(.int 2), (.int 0), (.ref b2), (.int 0), (.ref va)])) _
    refine st9 _ ?_
    refine XS.aload X9.here hx rfl (hb hby d16_30) rfl rfl ?_
    show Steps _ _ _ (T9.setTop (mkF m 32 #[.val (.ref va), .val (.int 0), .val (.int 2), .val (.int 2), .val (.ref b2)] [(.ref b2)])) _
    jvm_step X9.here [X9.here.top, hx, (hb hby d16_32), X9.method', Bd.returns, Value.isRef, FieldType.isReference]
    first | (intro acts; rw [hrZ _ acts rfl rfl rfl]) | rw [hrZ _ _ rfl rfl rfl]
    exact Steps.refl _
  · show Q16n2 Z va kv y0 y1 y2 y3 h0 n0 _ T9.heap _
    rw [e9]
    exact ⟨b2, k2, rfl, N9, K11, gn_b2, sz_b2, U9⟩
theorem ef15n2 (m : MethodId) (va : Addr) : entryFrame m #[(.ref va), (.int 0), (.int 2)] 3 = mkF m 0 #[.val (.ref va), .val (.int 0), .val (.int 2)] [] := by first | (simp [entryFrame, mkF, argsToLocals, Value.category]; done) | rfl
def Q15n2 (Z : State) (va : Addr) (kv : ClassId) (y0 : Int32) (y1 : Int32) (y2 : Int32) (y3 : Int32) (h0 : Heap) (n0 : Nat) (v : Option Value) (h : Heap) (L : List Loc) : Prop := ∃ (vb : Addr) (kb : ClassId), v = some (.ref vb) ∧ Fr n0 L ∧ Keep h0 h [] ∧ n0 ≤ vb ∧ h0.size ≤ vb ∧ Arv Z h vb kb .byte (2 : Int32) [(.int y0), (.int y1)] (.int 0)
theorem rm15n2 (l : Launch) (Z : State) (a0 : Array Value) (hw : ∀ d ∈ tables_1, d.before a0 Z = true) (ws : List Jvm.Cond) (va : Addr) (kv : ClassId) (y0 : Int32) (y1 : Int32) (y2 : Int32) (y3 : Int32) (h0 : Heap) (n0 : Nat) (Z0 : n0 ≤ h0.size) (Vx1 : Arv Z h0 va kv .byte (16 : Int32) [(.int y0), (.int y1), (.int y2), (.int y3)] (.int 0)) :
    MetFree l oM24 (head1 (Jvm.Cond.code oM24 jdk_65_method_132_code 3 (some (.array .byte)) :: ws) oR16) (fun a U => a = #[(.ref va), (.int 0), (.int 2)] ∧ Z.Warmed39 U.vm ∧ U.heap = h0) (fun _ _ _ _ _ => True) (fun _ U o U' => ∃ v L, o = .returned v ∧ Q15n2 Z va kv y0 y1 y2 y3 h0 n0 v U'.heap L ∧ FrameEnd U o U' L oR16.cells oR16.slots) := by
  refine MetFree.of_bodySF (plainFor_of_name pn13) hisR ?_
  intro p e s m args below meth c s₁ Bd hml0 hP hK
  obtain ⟨rfl, hZ, hh⟩ := hP
  have hx := Bd.exec
  have hby := Bd.bytes
  have hml : c.maxLocals = 3 := hml0
  have hown : s.vm.findClass "java/util/Arrays" = some m.cls := findClass_of_methodNamed Bd.named
  have hnm := (name_of_methodNamed Bd.named Bd.method).1
  have X0 : Stand p l e oR16 s m #[(.ref va), (.int 0), (.int 2)] below meth c s₁ [] 0 0 := Stand.of_body Bd
  have e0 : s₁.heap = h0 := by rw [← hh, Bd.state]; rfl
  have N0 := Fr.nil n0
  have pre0 : ∀ tZ, Steps p.tables e below (s₁.setTop (mkF m 0 #[.val (.ref va), .val (.int 0), .val (.int 2)] [])) tZ → Steps p.tables e below (s₁.setTop (entryFrame m #[(.ref va), (.int 0), (.int 2)] 3)) tZ := fun tZ kZ => castTop (ef15n2 m va) kZ
  obtain ⟨c1, Arc1, -, Sc1, Mc1, -, -⟩ := id Vx1
  obtain ⟨_, _, ⟨T2, L2, k2, n2⟩, -, X2, ⟨Lc2, hQ2, l2, y2, z2⟩, st2⟩ := Jvm.LawKit.callS X0 hx (y := oM23) hown (mvT hZ (ow hw 99 rfl)) (mvT hZ (ow hw 100 rfl)) (mvT hZ (ow hw 97 rfl)) (mvT hZ (ow hw 101 rfl)) (by decide) (backOf (W := 0) (rm16n2 l Z a0 hw [] va kv y0 y1 y2 y3 h0 n0 Z0 Vx1) hZ (ow hw 101 rfl) (ow hw 97 rfl) (by decide) (by decide)) (g := (mkF m 13 #[.val (.ref va), .val (.int 0), .val (.int 2)] [(.int 2), (.int 0), (.ref va)])) rfl (by rw [hml]; rfl) (argsL := [(.ref va), (.int 0), (.int 2)]) (rest := []) (lenOf pd16 rfl) rfl (Nat.le_of_eq rfl) (hb hby d15_13) (fun _ _ => ⟨rfl, e0, (by decide : 0 + 1 ≤ _), (by decide : 0 + 2 ≤ _)⟩)
  dsimp only [Pt.U, Pt.locs, Pt.cells, Pt.slots] at X2 l2 y2 z2 st2 hQ2
  subst l2 y2 z2
  obtain ⟨vb_3, kb_4, rfl, N2q, K2, u2_0, u2_1, f2_0⟩ := hQ2
  have N2 := Fr.app N0 N2q
  have Z5 : n0 ≤ T2.heap.size := Nat.le_trans Z0 K2.1
  have K6 : Keep h0 T2.heap [] := (Keep.refl h0 []).trans K2 all0
  have ne7 : va ≠ vb_3 := Nat.ne_of_lt (Nat.lt_of_lt_of_le Vx1.lt u2_1)
  have sz_vb_3 : h0.size ≤ vb_3 := Nat.le_trans (Keep.refl h0 []).1 u2_1
  obtain ⟨fsZ, hrZ, hrun, hended, hW, hsame⟩ := X2.leave (v := some (.ref vb_3)) (fun h => by rw [Bd.returns] at h; cases h)
  refine ⟨_, _, pre0 _ ?_, hrun, hended, _, _, rfl, ?_, ⟨_, rfl⟩, hW, hsame.mono (by decide) (by decide)⟩
  · show Steps _ _ _ (s₁.setTop (mkF m 0 #[.val (.ref va), .val (.int 0), .val (.int 2)] [])) _
    refine XS.iloadN X0.here hx rfl (hb hby d15_0) rfl  ?_
    refine XS.ifNo X0.here hx rfl (hb hby d15_1) rfl ((if0 _ _).trans (teq (by decide)).2) ?_
    refine XS.iloadN X0.here hx rfl (hb hby d15_4) rfl  ?_
    refine XS.aloadN X0.here hx rfl (hb hby d15_5) rfl rfl ?_
    show Steps _ _ _ (s₁.setTop (mkF m 6 #[.val (.ref va), .val (.int 0), .val (.int 2)] [(.ref va), (.int 2)])) _
    refine X0.arraylength hx (by rw [e0]; exact Arc1.1) (State.isArrayOf_alike hZ.alike Arc1.2.1) (g := (mkF m 6 #[.val (.ref va), .val (.int 0), .val (.int 2)] [(.ref va), (.int 2)])) rfl rfl (hb hby d15_6) _ ?_
    rw [len_of Sc1 Mc1]
    show Steps _ _ _ (s₁.setTop (mkF m 7 #[.val (.ref va), .val (.int 0), .val (.int 2)] [(.int 16), (.int 2)])) _
    refine XS.icmpNo X0.here hx rfl (hb hby d15_7) rfl (feq (by decide)).1 ?_
    refine XS.aloadN X0.here hx rfl (hb hby d15_10) rfl rfl ?_
    refine XS.iloadN X0.here hx rfl (hb hby d15_11) rfl  ?_
    refine XS.iloadN X0.here hx rfl (hb hby d15_12) rfl  ?_
    show Steps _ _ _ (s₁.setTop (mkF m 13 #[.val (.ref va), .val (.int 0), .val (.int 2)] [(.int 2), (.int 0), (.ref va)])) _
    refine st2 _ ?_
    show Steps _ _ _ (T2.setTop (mkF m 16 #[.val (.ref va), .val (.int 0), .val (.int 2)] [(.ref vb_3)])) _
    jvm_step X2.here [X2.here.top, hx, (hb hby d15_16), X2.method', Bd.returns, Value.isRef, FieldType.isReference]
    first | (intro acts; rw [hrZ _ acts rfl rfl rfl]) | rw [hrZ _ _ rfl rfl rfl]
    exact Steps.refl _
  · show Q15n2 Z va kv y0 y1 y2 y3 h0 n0 _ T2.heap _
    exact ⟨vb_3, kb_4, rfl, N2, K6, u2_0, sz_vb_3, f2_0⟩
theorem ef10n2 (m : MethodId) (sa : Addr) (b : Addr) : entryFrame m #[(.ref sa), (.ref b), .null] 5 = mkF m 0 #[.val (.ref sa), .val (.ref b), .val .null, .unset, .unset] [] := by first | (simp [entryFrame, mkF, argsToLocals, Value.category]; done) | rfl
def Q10n2 (Z : State) (sa : Addr) (b : Addr) (u1 : Value) (u2 : Value) (va : Addr) (kv : ClassId) (y0 : Int32) (y1 : Int32) (y2 : Int32) (y3 : Int32) (cs : Int32) (h0 : Heap) (n0 : Nat) (v : Option Value) (h : Heap) (L : List Loc) : Prop := ∃ (vb : Addr) (kb : ClassId), v = none ∧ Fr n0 L ∧ Keep h0 h [sa] ∧ n0 ≤ vb ∧ h0.size ≤ vb ∧ Exa Z h sa oS ∧ Fld Z h sa oS "coder" "B" (.int 0) ∧ Fld Z h sa oS "value" "[B" (.ref vb) ∧ Arv Z h vb kb .byte (2 : Int32) [(.int y0), (.int y1)] (.int 0)
theorem rm10n2 (l : Launch) (Z : State) (a0 : Array Value) (hw : ∀ d ∈ tables_1, d.before a0 Z = true) (ws : List Jvm.Cond) (sa : Addr) (b : Addr) (u1 : Value) (u2 : Value) (va : Addr) (kv : ClassId) (y0 : Int32) (y1 : Int32) (y2 : Int32) (y3 : Int32) (cs : Int32) (h0 : Heap) (n0 : Nat) (Z0 : n0 ≤ h0.size) (Ex0 : Exa Z h0 sa oS) (S1 : Fld Z h0 sa oS "coder" "B" u1) (S2 : Fld Z h0 sa oS "value" "[B" u2) (gx0 : n0 ≤ sa) (F0 : Exa Z h0 b oB) (F1 : Fld Z h0 b oA "value" "[B" (.ref va)) (F2 : Fld Z h0 b oA "coder" "B" (.int 0)) (F3 : Fld Z h0 b oA "count" "I" (.int 2)) (F4 : Arv Z h0 va kv .byte (16 : Int32) [(.int y0), (.int y1), (.int y2), (.int y3)] (.int 0)) (nx0_ : sa ≠ b) (nx1_ : sa ≠ va) (Cs : Sta Z Z.heap oS "COMPACT_STRINGS" "Z" (.int cs)) (hcs : ¬ (cs = (0 : Int32))) (Ox : Old Z n0 h0) :
    MetFree l oM25 (head1 (Jvm.Cond.code oM25 jdk_42_method_150_code 5 none :: ws) oR17) (fun a U => a = #[(.ref sa), (.ref b), .null] ∧ Z.Warmed39 U.vm ∧ U.heap = h0) (fun _ _ _ _ _ => True) (fun _ U o U' => ∃ v L, o = .returned v ∧ Q10n2 Z sa b u1 u2 va kv y0 y1 y2 y3 cs h0 n0 v U'.heap L ∧ FrameEnd U o U' L oR17.cells oR17.slots) := by
  refine MetFree.of_bodySF (plainFor_of_name pn17) hisR ?_
  intro p e s m args below meth c s₁ Bd hml0 hP hK
  obtain ⟨rfl, hZ, hh⟩ := hP
  have hx := Bd.exec
  have hby := Bd.bytes
  have hml : c.maxLocals = 5 := hml0
  have hown : s.vm.findClass oS = some m.cls := findClass_of_methodNamed Bd.named
  have hnm := (name_of_methodNamed Bd.named Bd.method).1
  have X0 : Stand p l e oR17 s m #[(.ref sa), (.ref b), .null] below meth c s₁ [] 0 0 := Stand.of_body Bd
  have e0 : s₁.heap = h0 := by rw [← hh, Bd.state]; rfl
  have N0 := Fr.nil n0
  have pre0 : ∀ tZ, Steps p.tables e below (s₁.setTop (mkF m 0 #[.val (.ref sa), .val (.ref b), .val .null, .unset, .unset] [])) tZ → Steps p.tables e below (s₁.setTop (entryFrame m #[(.ref sa), (.ref b), .null] 5)) tZ := fun tZ kZ => castTop (ef10n2 m sa b) kZ
  obtain ⟨T1, X1, e1, st1⟩ := initO X0 hx hZ hown (ow hw 72 rfl) (ow hw 16 rfl) (ow hw 17 rfl) e0 (g := (mkF m 1 #[.val (.ref sa), .val (.ref b), .val .null, .unset, .unset] [(.ref sa)])) rfl (by rw [hml]; rfl) rfl (hb hby d10_1) (by decide) (W := 0) (Nat.le_of_eq rfl) (by decide)
  obtain ⟨cq2, kq2, q2a, q2b, q2c⟩ := isOf hZ e1 F0
  obtain ⟨_, _, ⟨T2, L2, k2, n2⟩, -, X2, ⟨Lc2, hQ2, l2, y2, z2⟩, st2⟩ := X1.virtualBack hx (y := oM18) (z := oM18) hown (mvT hZ (ow hw 73 rfl)) (mvT hZ (ow hw 74 rfl)) (notFace_of_selects (args := #[]) (mvT hZ (ow hw 76 rfl))) (mvT hZ (ow hw 76 rfl)) (mvT hZ (ow hw 75 rfl)) (by decide) (backOf (W := 0) (rm11 l Z a0 hw [] b va h0 n0 Z0 F1) hZ (ow hw 77 rfl) (ow hw 51 rfl) (by decide) (by decide)) q2a q2c (g := (mkF m 5 #[.val (.ref sa), .val (.ref b), .val .null, .unset, .unset] [(.ref b)])) rfl (by rw [hml]; rfl) (Steps.refl _) (argsL := []) (rest := []) (lenOf pd18 rfl) rfl (Nat.le_of_eq rfl) (hb hby d10_5) (fun _ _ => ⟨rfl, e1, (by decide : 0 + 0 ≤ _), (by decide : 0 + 0 ≤ _)⟩)
  dsimp only [Pt.U, Pt.locs, Pt.cells, Pt.slots] at X2 l2 y2 z2 st2 hQ2
  subst l2 y2 z2
  obtain ⟨rfl, N2q, e2⟩ := hQ2
  have N2 := Fr.app N0 N2q
  obtain ⟨cq3, kq3, q3a, q3b, q3c⟩ := isOf hZ e2 F0
  obtain ⟨_, _, ⟨T3, L3, k3, n3⟩, -, X3, ⟨Lc3, hQ3, l3, y3, z3⟩, st3⟩ := X2.virtualBack hx (y := oM19) (z := oM20) hown (mvT hZ (ow hw 78 rfl)) (mvT hZ (ow hw 79 rfl)) (own_nf (mvT hZ (ow hw 76 rfl) (args := #[])) rfl) (mvT hZ (ow hw 81 rfl)) (mvT hZ (ow hw 82 rfl)) (by decide) (backOf (W := 0) (rm12 l Z a0 hw [] b (2 : Int32) h0 n0 Z0 F0 F3) hZ (ow hw 83 rfl) (ow hw 43 rfl) (by decide) (by decide)) q3a q3c (g := (mkF m 10 #[.val (.ref sa), .val (.ref b), .val .null, .val (.ref va), .unset] [(.ref b)])) rfl (by rw [hml]; rfl) (Steps.refl _) (argsL := []) (rest := []) (lenOf pd12 rfl) rfl (Nat.le_of_eq rfl) (hb hby d10_10) (fun _ _ => ⟨rfl, e2, (by decide : 0 + 0 ≤ _), (by decide : 0 + 0 ≤ _)⟩)
  dsimp only [Pt.U, Pt.locs, Pt.cells, Pt.slots] at X3 l3 y3 z3 st3 hQ3
  subst l3 y3 z3
  obtain ⟨rfl, N3q, e3⟩ := hQ3
  have N3 := Fr.app N2 N3q
  obtain ⟨cq4, kq4, q4a, q4b, q4c⟩ := isOf hZ e3 F0
  obtain ⟨_, _, ⟨T4, L4, k4, n4⟩, -, X4, ⟨Lc4, hQ4, l4, y4, z4⟩, st4⟩ := X3.virtualBack hx (y := oM9) (z := oM9) hown (mvT hZ (ow hw 89 rfl)) (mvT hZ (ow hw 90 rfl)) (notFace_of_selects (args := #[]) (mvT hZ (ow hw 92 rfl))) (mvT hZ (ow hw 92 rfl)) (mvT hZ (ow hw 91 rfl)) (by decide) (backOf (W := 0) (rm14 l Z a0 hw [] b cs h0 n0 Z0 F2 Cs (by first | assumption | decide | omega) Ox) hZ (ow hw 93 rfl) (ow hw 51 rfl) (by decide) (by decide)) q4a q4c (g := (mkF m 16 #[.val (.ref sa), .val (.ref b), .val .null, .val (.ref va), .val (.int 2)] [(.ref b)])) rfl (by rw [hml]; rfl) (Steps.refl _) (argsL := []) (rest := []) (lenOf pd2 rfl) rfl (Nat.le_of_eq rfl) (hb hby d10_16) (fun _ _ => ⟨rfl, e3, (by decide : 0 + 0 ≤ _), (by decide : 0 + 0 ≤ _)⟩)
  dsimp only [Pt.U, Pt.locs, Pt.cells, Pt.slots] at X4 l4 y4 z4 st4 hQ4
  subst l4 y4 z4
  obtain ⟨rfl, N4q, e4⟩ := hQ4
  have N4 := Fr.app N3 N4q
  obtain ⟨T5, h5, X5, e5, W5, st5⟩ := putFN X4 hx hZ hown (ow hw 94 rfl) Via.refl e4 S1 Ex0 (Or.inr ⟨(ow hw 6 rfl), rfl, hnm⟩) (ow hw 3 rfl) (ty := .byte) (v' := (.int 0)) (by decide) rfl (by decide) (g := (mkF m 24 #[.val (.ref sa), .val (.ref b), .val .null, .val (.ref va), .val (.int 2)] [(.int 0), (.ref sa)])) rfl rfl (hb hby d10_24)
  have fw5 : Fld Z h5 sa oS "coder" "B" (.int 0) := S1.same W5
  have Z6 : n0 ≤ h5.size := Nat.le_trans Z0 (Nat.le_of_eq W5.size.symm)
  have K7 : Keep h0 h5 [sa] := (Keep.refl h0 [sa]).wr W5 (Or.inl (List.mem_of_getElem? (i := 0) rfl))
  have N5 := Fr.snoc X5 N4 gx0
  have fa8 := (F4.other W5 (Ne.symm nx1_))
  obtain ⟨_, _, ⟨T9, L9, k9, n9⟩, -, X9, ⟨Lc9, hQ9, l9, y9, z9⟩, st9⟩ := Jvm.LawKit.callS X5 hx (y := oM24) hown (mvT hZ (ow hw 95 rfl)) (mvT hZ (ow hw 96 rfl)) (mvT hZ (ow hw 97 rfl)) (mvT hZ (ow hw 98 rfl)) (by decide) (backOf (W := 1) (rm15n2 l Z a0 hw [] va kv y0 y1 y2 y3 h5 n0 Z6 fa8) hZ (ow hw 98 rfl) (ow hw 97 rfl) (by decide) (by decide)) (g := (mkF m 32 #[.val (.ref sa), .val (.ref b), .val .null, .val (.ref va), .val (.int 2)] [(.int 2), (.int 0), (.ref va), (.ref sa)])) rfl (by rw [hml]; rfl) (argsL := [(.ref va), (.int 0), (.int 2)]) (rest := [(.ref sa)]) (lenOf pd16 rfl) rfl (Nat.le_of_eq rfl) (hb hby d10_32) (fun _ _ => ⟨rfl, e5, (by decide : 0 + 1 ≤ _), (by decide : 0 + 2 ≤ _)⟩)
  dsimp only [Pt.U, Pt.locs, Pt.cells, Pt.slots] at X9 l9 y9 z9 st9 hQ9
  subst l9 y9 z9
  obtain ⟨vb_10, kb_11, rfl, N9q, K9, u9_0, u9_1, f9_0⟩ := hQ9
  have N9 := Fr.app N5 N9q
  have Z12 : n0 ≤ T9.heap.size := Nat.le_trans Z6 K9.1
  have K13 : Keep h0 T9.heap [sa] := K7.trans K9 all0
  have ne14 : sa ≠ vb_10 := Nat.ne_of_lt (Nat.lt_of_lt_of_le (Ex0.wr W5).lt u9_1)
  have ne15 : b ≠ vb_10 := Nat.ne_of_lt (Nat.lt_of_lt_of_le (F0.wr W5).lt u9_1)
  have ne16 : va ≠ vb_10 := Nat.ne_of_lt (Nat.lt_of_lt_of_le fa8.lt u9_1)
  have sz_vb_10 : h0.size ≤ vb_10 := Nat.le_trans K7.1 u9_1
  have fa17 := ((S2.other W5 (Or.inr (slot_ne (Or.inr (ow hw 5 rfl)) (Or.inr (ow hw 6 rfl)) (by decide) (t := (.array .byte)) (t' := .byte) (by decide) (by decide)))).keep K9 nin0)
  have fa18 := ((Ex0.wr W5).keep K9)
  obtain ⟨T19, h19, X19, e19, W19, st19⟩ := putF X9 hx hZ hown (host := "") (Or.inl (ow hw 113 rfl)) Via.refl rfl fa17 fa18 (Or.inr ⟨(ow hw 5 rfl), rfl, hnm⟩) (ow hw 3 rfl) (ty := (.array .byte)) (by decide) rfl rfl (g := (mkF m 35 #[.val (.ref sa), .val (.ref b), .val .null, .val (.ref va), .val (.int 2)] [(.ref vb_10), (.ref sa)])) rfl rfl (hb hby d10_35)
  have fw19 : Fld Z h19 sa oS "value" "[B" (.ref vb_10) := fa17.same W19
  have Z20 : n0 ≤ h19.size := Nat.le_trans Z12 (Nat.le_of_eq W19.size.symm)
  have K21 : Keep h0 h19 [sa] := K13.wr W19 (Or.inl (List.mem_of_getElem? (i := 0) rfl))
  have N19 := Fr.snoc X19 N9 gx0
  obtain ⟨fsZ, hrZ, hrun, hended, hW, hsame⟩ := X19.leave (v := none) (fun _ => rfl)
  have fa22 := (fa18.wr W19)
  have fa23 := ((fw5.keep K9 nin0).other W19 (Or.inr (slot_ne (Or.inr (ow hw 6 rfl)) (Or.inr (ow hw 5 rfl)) (by decide) (t := .byte) (t' := (.array .byte)) (by decide) (by decide))))
  have fa24 := (f9_0.other W19 (Ne.symm ne14))
  refine ⟨_, _, pre0 _ ?_, hrun, hended, _, _, rfl, ?_, ⟨_, rfl⟩, hW, hsame.mono (by decide) (by decide)⟩
  · show Steps _ _ _ (s₁.setTop (mkF m 0 #[.val (.ref sa), .val (.ref b), .val .null, .unset, .unset] [])) _
    refine XS.aloadN X0.here hx rfl (hb hby d10_0) rfl rfl ?_
    show Steps _ _ _ (s₁.setTop (mkF m 1 #[.val (.ref sa), .val (.ref b), .val .null, .unset, .unset] [(.ref sa)])) _
    refine st1 _ ?_
    refine XS.aloadN X1.here hx rfl (hb hby d10_4) rfl rfl ?_
    show Steps _ _ _ (T1.setTop (mkF m 5 #[.val (.ref sa), .val (.ref b), .val .null, .unset, .unset] [(.ref b)])) _
    refine st2.trans ?_
    refine XS.astoreN X2.here hx rfl (hb hby d10_8) rfl rfl (l' := #[.val (.ref sa), .val (.ref b), .val .null, .val (.ref va), .unset]) rfl ?_
    refine XS.aloadN X2.here hx rfl (hb hby d10_9) rfl rfl ?_
    show Steps _ _ _ (T2.setTop (mkF m 10 #[.val (.ref sa), .val (.ref b), .val .null, .val (.ref va), .unset] [(.ref b)])) _
    refine st3.trans ?_
    refine XS.istore X3.here hx rfl (hb hby d10_13) rfl (l' := #[.val (.ref sa), .val (.ref b), .val .null, .val (.ref va), .val (.int 2)]) rfl ?_
    refine XS.aloadN X3.here hx rfl (hb hby d10_15) rfl rfl ?_
    show Steps _ _ _ (T3.setTop (mkF m 16 #[.val (.ref sa), .val (.ref b), .val .null, .val (.ref va), .val (.int 2)] [(.ref b)])) _
    refine st4.trans ?_
    refine XS.ifNo X4.here hx rfl (hb hby d10_19) rfl ((if0 _ _).trans (feq (by decide)).1) ?_
    refine XS.aloadN X4.here hx rfl (hb hby d10_22) rfl rfl ?_
    refine XS.iconst X4.here hx rfl (hb hby d10_23) ?_
    show Steps _ _ _ (T4.setTop (mkF m 24 #[.val (.ref sa), .val (.ref b), .val .null, .val (.ref va), .val (.int 2)] [(.int 0), (.ref sa)])) _
    refine st5 _ ?_
    refine XS.aloadN X5.here hx rfl (hb hby d10_27) rfl rfl ?_
    refine XS.aloadN X5.here hx rfl (hb hby d10_28) rfl rfl ?_
    refine XS.iconst X5.here hx rfl (hb hby d10_29) ?_
    refine XS.iload X5.here hx rfl (hb hby d10_30) rfl  ?_
    show Steps _ _ _ (T5.setTop (mkF m 32 #[.val (.ref sa), .val (.ref b), .val .null, .val (.ref va), .val (.int 2)] [(.int 2), (.int 0), (.ref va), (.ref sa)])) _
    refine st9 _ ?_
    show Steps _ _ _ (T9.setTop (mkF m 35 #[.val (.ref sa), .val (.ref b), .val .null, .val (.ref va), .val (.int 2)] [(.ref vb_10), (.ref sa)])) _
    refine st19 _ ?_
    refine XS.goto X19.here hx rfl (pc0 := 38) (pc' := 97) rfl (hb hby d10_38) (by decide) (by decide) ?_
    show Steps _ _ _ (T19.setTop (mkF m 97 #[.val (.ref sa), .val (.ref b), .val .null, .val (.ref va), .val (.int 2)] [])) _
    exact X19.returnOut hx Bd.returns (hb hby d10_97) hrZ
  · show Q10n2 Z sa b u1 u2 va kv y0 y1 y2 y3 cs h0 n0 _ T19.heap _
    rw [e19]
    exact ⟨vb_10, kb_11, rfl, N19, K21, u9_0, sz_vb_10, fa22, fa23, fw19, fa24⟩
theorem ef9n2 (m : MethodId) (sa : Addr) (b : Addr) : entryFrame m #[(.ref sa), (.ref b)] 2 = mkF m 0 #[.val (.ref sa), .val (.ref b)] [] := by first | (simp [entryFrame, mkF, argsToLocals, Value.category]; done) | rfl
def Q9n2 (Z : State) (sa : Addr) (b : Addr) (u1 : Value) (u2 : Value) (va : Addr) (kv : ClassId) (y0 : Int32) (y1 : Int32) (y2 : Int32) (y3 : Int32) (cs : Int32) (h0 : Heap) (n0 : Nat) (v : Option Value) (h : Heap) (L : List Loc) : Prop := ∃ (vb : Addr) (kb : ClassId), v = none ∧ Fr n0 L ∧ Keep h0 h [sa] ∧ n0 ≤ vb ∧ h0.size ≤ vb ∧ Exa Z h sa oS ∧ Fld Z h sa oS "coder" "B" (.int 0) ∧ Fld Z h sa oS "value" "[B" (.ref vb) ∧ Arv Z h vb kb .byte (2 : Int32) [(.int y0), (.int y1)] (.int 0)
theorem rm9n2 (l : Launch) (Z : State) (a0 : Array Value) (hw : ∀ d ∈ tables_1, d.before a0 Z = true) (ws : List Jvm.Cond) (sa : Addr) (b : Addr) (u1 : Value) (u2 : Value) (va : Addr) (kv : ClassId) (y0 : Int32) (y1 : Int32) (y2 : Int32) (y3 : Int32) (cs : Int32) (h0 : Heap) (n0 : Nat) (Z0 : n0 ≤ h0.size) (Ex0 : Exa Z h0 sa oS) (S1 : Fld Z h0 sa oS "coder" "B" u1) (S2 : Fld Z h0 sa oS "value" "[B" u2) (gx0 : n0 ≤ sa) (F0 : Exa Z h0 b oB) (F1 : Fld Z h0 b oA "value" "[B" (.ref va)) (F2 : Fld Z h0 b oA "coder" "B" (.int 0)) (F3 : Fld Z h0 b oA "count" "I" (.int 2)) (F4 : Arv Z h0 va kv .byte (16 : Int32) [(.int y0), (.int y1), (.int y2), (.int y3)] (.int 0)) (nx0_ : sa ≠ b) (nx1_ : sa ≠ va) (Cs : Sta Z Z.heap oS "COMPACT_STRINGS" "Z" (.int cs)) (hcs : ¬ (cs = (0 : Int32))) (Ox : Old Z n0 h0) :
    MetFree l oM26 (head1 (Jvm.Cond.code oM26 jdk_42_method_53_code 2 none :: ws) oR18) (fun a U => a = #[(.ref sa), (.ref b)] ∧ Z.Warmed39 U.vm ∧ U.heap = h0) (fun _ _ _ _ _ => True) (fun _ U o U' => ∃ v L, o = .returned v ∧ Q9n2 Z sa b u1 u2 va kv y0 y1 y2 y3 cs h0 n0 v U'.heap L ∧ FrameEnd U o U' L oR18.cells oR18.slots) := by
  refine MetFree.of_bodySF (plainFor_of_name pn17) hisR ?_
  intro p e s m args below meth c s₁ Bd hml0 hP hK
  obtain ⟨rfl, hZ, hh⟩ := hP
  have hx := Bd.exec
  have hby := Bd.bytes
  have hml : c.maxLocals = 2 := hml0
  have hown : s.vm.findClass oS = some m.cls := findClass_of_methodNamed Bd.named
  have hnm := (name_of_methodNamed Bd.named Bd.method).1
  have X0 : Stand p l e oR18 s m #[(.ref sa), (.ref b)] below meth c s₁ [] 0 0 := Stand.of_body Bd
  have e0 : s₁.heap = h0 := by rw [← hh, Bd.state]; rfl
  have N0 := Fr.nil n0
  have pre0 : ∀ tZ, Steps p.tables e below (s₁.setTop (mkF m 0 #[.val (.ref sa), .val (.ref b)] [])) tZ → Steps p.tables e below (s₁.setTop (entryFrame m #[(.ref sa), (.ref b)] 2)) tZ := fun tZ kZ => castTop (ef9n2 m sa b) kZ
  obtain ⟨_, _, ⟨T1, L1, k1, n1⟩, -, X1, ⟨Lc1, hQ1, l1, y1, z1⟩, st1⟩ := X0.specialBack hx (y := oM25) rfl hown (mvT hZ (ow hw 69 rfl)) (mvT hZ (ow hw 70 rfl)) (mvT hZ (ow hw 71 rfl)) (by decide) (backOf (W := 0) (rm10n2 l Z a0 hw [] sa b u1 u2 va kv y0 y1 y2 y3 cs h0 n0 Z0 Ex0 S1 S2 gx0 F0 F1 F2 F3 F4 nx0_ nx1_ Cs (by first | assumption | decide | omega) Ox) hZ (ow hw 71 rfl) (ow hw 2 rfl) (by decide) (by decide)) (g := (mkF m 3 #[.val (.ref sa), .val (.ref b)] [.null, (.ref b), (.ref sa)])) rfl (by rw [hml]; rfl) (Steps.refl _) (a := sa) (argsL := [(.ref b), .null]) (rest := []) (lenOf pd19 rfl) rfl (Nat.le_of_eq rfl) (hb hby d9_3) (fun _ _ => ⟨rfl, e0, (by decide : 0 + 1 ≤ _), (by decide : 0 + 2 ≤ _)⟩)
  dsimp only [Pt.U, Pt.locs, Pt.cells, Pt.slots] at X1 l1 y1 z1 st1 hQ1
  subst l1 y1 z1
  obtain ⟨vb_2, kb_3, rfl, N1q, K1, u1_0, u1_1, f1_0, f1_1, f1_2, f1_3⟩ := hQ1
  have N1 := Fr.app N0 N1q
  have Z4 : n0 ≤ T1.heap.size := Nat.le_trans Z0 K1.1
  have K5 : Keep h0 T1.heap [sa] := (Keep.refl h0 [sa]).trans K1 (allS (P := fun x => x ∈ _ ∨ _) (Or.inl (List.mem_of_getElem? (i := 0) rfl)) all0)
  have ne6 : sa ≠ vb_2 := Nat.ne_of_lt (Nat.lt_of_lt_of_le Ex0.lt u1_1)
  have ne7 : b ≠ vb_2 := Nat.ne_of_lt (Nat.lt_of_lt_of_le F0.lt u1_1)
  have ne8 : va ≠ vb_2 := Nat.ne_of_lt (Nat.lt_of_lt_of_le F4.lt u1_1)
  have sz_vb_2 : h0.size ≤ vb_2 := Nat.le_trans (Keep.refl h0 [sa]).1 u1_1
  obtain ⟨fsZ, hrZ, hrun, hended, hW, hsame⟩ := X1.leave (v := none) (fun _ => rfl)
  refine ⟨_, _, pre0 _ ?_, hrun, hended, _, _, rfl, ?_, ⟨_, rfl⟩, hW, hsame.mono (by decide) (by decide)⟩
  · show Steps _ _ _ (s₁.setTop (mkF m 0 #[.val (.ref sa), .val (.ref b)] [])) _
    refine XS.aloadN X0.here hx rfl (hb hby d9_0) rfl rfl ?_
    refine XS.aloadN X0.here hx rfl (hb hby d9_1) rfl rfl ?_
    refine XS.aconstNull X0.here hx rfl (hb hby d9_2) ?_
    show Steps _ _ _ (s₁.setTop (mkF m 3 #[.val (.ref sa), .val (.ref b)] [.null, (.ref b), (.ref sa)])) _
    refine st1.trans ?_
    show Steps _ _ _ (T1.setTop (mkF m 6 #[.val (.ref sa), .val (.ref b)] [])) _
    exact X1.returnOut hx Bd.returns (hb hby d9_6) hrZ
  · show Q9n2 Z sa b u1 u2 va kv y0 y1 y2 y3 cs h0 n0 _ T1.heap _
    exact ⟨vb_2, kb_3, rfl, N1, K5, u1_0, sz_vb_2, f1_0, f1_1, f1_2, f1_3⟩
theorem ef8n2 (m : MethodId) (b : Addr) : entryFrame m #[(.ref b)] 1 = mkF m 0 #[.val (.ref b)] [] := by first | (simp [entryFrame, mkF, argsToLocals, Value.category]; done) | rfl
def Q8n2 (Z : State) (b : Addr) (va : Addr) (kv : ClassId) (y0 : Int32) (y1 : Int32) (y2 : Int32) (y3 : Int32) (cs : Int32) (h0 : Heap) (n0 : Nat) (v : Option Value) (h : Heap) (L : List Loc) : Prop := ∃ (sa : Addr) (vb : Addr) (kb : ClassId), v = some (.ref sa) ∧ Fr n0 L ∧ Keep h0 h [] ∧ n0 ≤ sa ∧ h0.size ≤ sa ∧ n0 ≤ vb ∧ h0.size ≤ vb ∧ Exa Z h sa oS ∧ Fld Z h sa oS "coder" "B" (.int 0) ∧ Fld Z h sa oS "value" "[B" (.ref vb) ∧ Arv Z h vb kb .byte (2 : Int32) [(.int y0), (.int y1)] (.int 0)
theorem rm8n2 (l : Launch) (Z : State) (a0 : Array Value) (hw : ∀ d ∈ tables_1, d.before a0 Z = true) (ws : List Jvm.Cond) (b : Addr) (va : Addr) (kv : ClassId) (y0 : Int32) (y1 : Int32) (y2 : Int32) (y3 : Int32) (cs : Int32) (h0 : Heap) (n0 : Nat) (Z0 : n0 ≤ h0.size) (F0 : Exa Z h0 b oB) (F1 : Fld Z h0 b oA "value" "[B" (.ref va)) (F2 : Fld Z h0 b oA "coder" "B" (.int 0)) (F3 : Fld Z h0 b oA "count" "I" (.int 2)) (F4 : Arv Z h0 va kv .byte (16 : Int32) [(.int y0), (.int y1), (.int y2), (.int y3)] (.int 0)) (Cs : Sta Z Z.heap oS "COMPACT_STRINGS" "Z" (.int cs)) (hcs : ¬ (cs = (0 : Int32))) (Ox : Old Z n0 h0) :
    MetFree l oM27 (head1 (Jvm.Cond.code oM27 jdk_67_method_42_code 1 (some (.object oS)) :: ws) oR19) (fun a U => a = #[(.ref b)] ∧ Z.Warmed39 U.vm ∧ U.heap = h0) (fun _ _ _ _ _ => True) (fun _ U o U' => ∃ v L, o = .returned v ∧ Q8n2 Z b va kv y0 y1 y2 y3 cs h0 n0 v U'.heap L ∧ FrameEnd U o U' L oR19.cells oR19.slots) := by
  refine MetFree.of_bodySF (plainFor_of_name pn4) hisR ?_
  intro p e s m args below meth c s₁ Bd hml0 hP hK
  obtain ⟨rfl, hZ, hh⟩ := hP
  have hx := Bd.exec
  have hby := Bd.bytes
  have hml : c.maxLocals = 1 := hml0
  have hown : s.vm.findClass oB = some m.cls := findClass_of_methodNamed Bd.named
  have hnm := (name_of_methodNamed Bd.named Bd.method).1
  have X0 : Stand p l e oR19 s m #[(.ref b)] below meth c s₁ [] 0 0 := Stand.of_body Bd
  have e0 : s₁.heap = h0 := by rw [← hh, Bd.state]; rfl
  have N0 := Fr.nil n0
  have pre0 : ∀ tZ, Steps p.tables e below (s₁.setTop (mkF m 0 #[.val (.ref b)] [])) tZ → Steps p.tables e below (s₁.setTop (entryFrame m #[(.ref b)] 1)) tZ := fun tZ kZ => castTop (ef8n2 m b) kZ
  obtain ⟨T1, h1, X1, e1, E1, A1, D1, -, st1⟩ := newO X0 hx hZ hown (ow hw 64 rfl) (ow hw 3 rfl) (ow hw 2 rfl) e0 (g := (mkF m 0 #[.val (.ref b)] [])) rfl (hb hby d8_0) (by decide) (by decide)
  obtain ⟨b1, g1⟩ : ∃ z, z = h0.size := ⟨_, rfl⟩
  rw [← g1] at A1 D1 st1
  have ne2 : b ≠ b1 := Nat.ne_of_lt (Nat.lt_of_lt_of_le F0.lt (Nat.le_of_eq g1.symm))
  have ne3 : va ≠ b1 := Nat.ne_of_lt (Nat.lt_of_lt_of_le F4.lt (Nat.le_of_eq g1.symm))
  have gn_b1 : n0 ≤ b1 := Nat.le_trans Z0 (Nat.le_of_eq g1.symm)
  have sz_b1 : h0.size ≤ b1 := Nat.le_trans (Keep.refl h0 []).1 (Nat.le_of_eq g1.symm)
  have Z4 : n0 ≤ h1.size := Nat.le_trans Z0 E1.1
  have K5 : Keep h0 h1 [] := (Keep.refl h0 []).ext E1
  have F_value_b1 : Fld Z h1 b1 oS "value" "[B" .null := D1 (Or.inr (ow hw 5 rfl)) (ty := (.array .byte)) (by decide)
  have F_coder_b1 : Fld Z h1 b1 oS "coder" "B" (.int 0) := D1 (Or.inr (ow hw 6 rfl)) (ty := .byte) (by decide)
  have fa6 := (F0.ext E1)
  have fa7 := (F1.ext E1)
  have fa8 := (F2.ext E1)
  have fa9 := (F3.ext E1)
  have fa10 := (F4.ext E1)
  have fa11 := (Ox.ext E1)
  obtain ⟨_, _, ⟨T12, L12, k12, n12⟩, -, X12, ⟨Lc12, hQ12, l12, y12, z12⟩, st12⟩ := X1.specialBack hx (y := oM26) rfl hown (mvT hZ (ow hw 65 rfl)) (mvT hZ (ow hw 66 rfl)) (mvT hZ (ow hw 68 rfl)) (by decide) (backOf (W := 1) (rm9n2 l Z a0 hw [] b1 b (.int 0) .null va kv y0 y1 y2 y3 cs h1 n0 Z4 A1 F_coder_b1 F_value_b1 gn_b1 fa6 fa7 fa8 fa9 fa10 (Ne.symm ne2) (Ne.symm ne3) Cs (by first | assumption | decide | omega) fa11) hZ (ow hw 68 rfl) (ow hw 2 rfl) (by decide) (by decide)) (g := (mkF m 5 #[.val (.ref b)] [(.ref b), (.ref b1), (.ref b1)])) rfl (by rw [hml]; rfl) (Steps.refl _) (a := b1) (argsL := [(.ref b)]) (rest := [(.ref b1)]) (lenOf pd20 rfl) rfl (Nat.le_of_eq rfl) (hb hby d8_5) (fun _ _ => ⟨rfl, e1, (by decide : 1 + 1 ≤ _), (by decide : 4 + 2 ≤ _)⟩)
  dsimp only [Pt.U, Pt.locs, Pt.cells, Pt.slots] at X12 l12 y12 z12 st12 hQ12
  subst l12 y12 z12
  obtain ⟨vb_13, kb_14, rfl, N12q, K12, u12_0, u12_1, f12_0, f12_1, f12_2, f12_3⟩ := hQ12
  have N12 := Fr.app N0 N12q
  have Z15 : n0 ≤ T12.heap.size := Nat.le_trans Z4 K12.1
  have K16 : Keep h0 T12.heap [] := K5.trans K12 (allS (P := fun x => x ∈ _ ∨ _) (Or.inr sz_b1) all0)
  have ne17 : b ≠ vb_13 := Nat.ne_of_lt (Nat.lt_of_lt_of_le fa6.lt u12_1)
  have ne18 : va ≠ vb_13 := Nat.ne_of_lt (Nat.lt_of_lt_of_le fa10.lt u12_1)
  have ne19 : b1 ≠ vb_13 := Nat.ne_of_lt (Nat.lt_of_lt_of_le A1.lt u12_1)
  have sz_vb_13 : h0.size ≤ vb_13 := Nat.le_trans K5.1 u12_1
  obtain ⟨fsZ, hrZ, hrun, hended, hW, hsame⟩ := X12.leave (v := some (.ref b1)) (fun h => by rw [Bd.returns] at h; cases h)
  refine ⟨_, _, pre0 _ ?_, hrun, hended, _, _, rfl, ?_, ⟨_, rfl⟩, hW, hsame.mono (by decide) (by decide)⟩
  · show Steps _ _ _ (s₁.setTop (mkF m 0 #[.val (.ref b)] [])) _
    refine st1 _ ?_
    refine XS.dup X1.here hx rfl (hb hby d8_3) rfl rfl ?_
    refine XS.aloadN X1.here hx rfl (hb hby d8_4) rfl rfl ?_
    show Steps _ _ _ (T1.setTop (mkF m 5 #[.val (.ref b)] [(.ref b), (.ref b1), (.ref b1)])) _
    refine st12.trans ?_
    show Steps _ _ _ (T12.setTop (mkF m 8 #[.val (.ref b)] [(.ref b1)])) _
    jvm_step X12.here [X12.here.top, hx, (hb hby d8_8), X12.method', Bd.returns, Value.isRef, FieldType.isReference]
    first | (intro acts; rw [hrZ _ acts rfl rfl rfl]) | rw [hrZ _ _ rfl rfl rfl]
    exact Steps.refl _
  · show Q8n2 Z b va kv y0 y1 y2 y3 cs h0 n0 _ T12.heap _
    exact ⟨b1, vb_13, kb_14, rfl, N12, K16, gn_b1, sz_b1, u12_0, sz_vb_13, f12_0, f12_1, f12_2, f12_3⟩
theorem ef16n4 (m : MethodId) (va : Addr) : entryFrame m #[(.ref va), (.int 0), (.int 4)] 5 = mkF m 0 #[.val (.ref va), .val (.int 0), .val (.int 4), .unset, .unset] [] := by first | (simp [entryFrame, mkF, argsToLocals, Value.category]; done) | rfl
def Q16n4 (Z : State) (va : Addr) (kv : ClassId) (y0 : Int32) (y1 : Int32) (y2 : Int32) (y3 : Int32) (h0 : Heap) (n0 : Nat) (v : Option Value) (h : Heap) (L : List Loc) : Prop := ∃ (vb : Addr) (kb : ClassId), v = some (.ref vb) ∧ Fr n0 L ∧ Keep h0 h [] ∧ n0 ≤ vb ∧ h0.size ≤ vb ∧ Arv Z h vb kb .byte (4 : Int32) [(.int y0), (.int y1), (.int y2), (.int y3)] (.int 0)
theorem rm16n4 (l : Launch) (Z : State) (a0 : Array Value) (hw : ∀ d ∈ tables_1, d.before a0 Z = true) (ws : List Jvm.Cond) (va : Addr) (kv : ClassId) (y0 : Int32) (y1 : Int32) (y2 : Int32) (y3 : Int32) (h0 : Heap) (n0 : Nat) (Z0 : n0 ≤ h0.size) (Vx1 : Arv Z h0 va kv .byte (16 : Int32) [(.int y0), (.int y1), (.int y2), (.int y3)] (.int 0)) :
    MetFree l oM23 (head1 (Jvm.Cond.code oM23 jdk_65_method_133_code 5 (some (.array .byte)) :: ws) oR20) (fun a U => a = #[(.ref va), (.int 0), (.int 4)] ∧ Z.Warmed39 U.vm ∧ U.heap = h0) (fun _ _ _ _ _ => True) (fun _ U o U' => ∃ v L, o = .returned v ∧ Q16n4 Z va kv y0 y1 y2 y3 h0 n0 v U'.heap L ∧ FrameEnd U o U' L oR20.cells oR20.slots) := by
  refine MetFree.of_bodySF (plainFor_of_name pn13) hisR ?_
  intro p e s m args below meth c s₁ Bd hml0 hP hK
  obtain ⟨rfl, hZ, hh⟩ := hP
  have hx := Bd.exec
  have hby := Bd.bytes
  have hml : c.maxLocals = 5 := hml0
  have hown : s.vm.findClass "java/util/Arrays" = some m.cls := findClass_of_methodNamed Bd.named
  have hnm := (name_of_methodNamed Bd.named Bd.method).1
  have X0 : Stand p l e oR20 s m #[(.ref va), (.int 0), (.int 4)] below meth c s₁ [] 0 0 := Stand.of_body Bd
  have e0 : s₁.heap = h0 := by rw [← hh, Bd.state]; rfl
  have N0 := Fr.nil n0
  have pre0 : ∀ tZ, Steps p.tables e below (s₁.setTop (mkF m 0 #[.val (.ref va), .val (.int 0), .val (.int 4), .unset, .unset] [])) tZ → Steps p.tables e below (s₁.setTop (entryFrame m #[(.ref va), (.int 0), (.int 4)] 5)) tZ := fun tZ kZ => castTop (ef16n4 m va) kZ
  obtain ⟨_, _, ⟨T1, L1, k1, n1⟩, -, X1, ⟨Lc1, hQ1, l1, y1, z1⟩, st1⟩ := Jvm.LawKit.callS X0 hx (y := oM21) hown (mvT hZ (ow hw 102 rfl)) (mvT hZ (ow hw 103 rfl)) (mvT hZ (ow hw 97 rfl)) (mvT hZ (ow hw 104 rfl)) (by decide) (backOf (W := 0) (rm17 l Z a0 hw [] (4 : Int32) h0 n0 Z0 (by first | assumption | decide | omega)) hZ (ow hw 104 rfl) (ow hw 97 rfl) (by decide) (by decide)) (g := (mkF m 2 #[.val (.ref va), .val (.int 0), .val (.int 4), .unset, .unset] [(.int 4), (.int 0)])) rfl (by rw [hml]; rfl) (argsL := [(.int 0), (.int 4)]) (rest := []) (lenOf pd14 rfl) rfl (Nat.le_of_eq rfl) (hb hby d16_2) (fun _ _ => ⟨rfl, e0, (by decide : 0 + 0 ≤ _), (by decide : 0 + 0 ≤ _)⟩)
  dsimp only [Pt.U, Pt.locs, Pt.cells, Pt.slots] at X1 l1 y1 z1 st1 hQ1
  subst l1 y1 z1
  obtain ⟨rfl, N1q, e1⟩ := hQ1
  have N1 := Fr.app N0 N1q
  obtain ⟨T2, h2, k2, X2, e2, E2, A2, st2⟩ := newP X1 hx hZ (ow hw 4 rfl) e1 (g := (mkF m 10 #[.val (.ref va), .val (.int 0), .val (.int 4), .val (.int 4), .unset] [(.int 4)])) rfl (hb hby d16_10) rfl (by decide) (cap := 4) (by decide) (by decide) (by decide) (by decide)
  obtain ⟨b2, g2⟩ : ∃ z, z = h0.size := ⟨_, rfl⟩
  rw [← g2] at A2 st2
  have ne3 : va ≠ b2 := Nat.ne_of_lt (Nat.lt_of_lt_of_le Vx1.lt (Nat.le_of_eq g2.symm))
  have gn_b2 : n0 ≤ b2 := Nat.le_trans Z0 (Nat.le_of_eq g2.symm)
  have sz_b2 : h0.size ≤ b2 := Nat.le_trans (Keep.refl h0 []).1 (Nat.le_of_eq g2.symm)
  have Z4 : n0 ≤ h2.size := Nat.le_trans Z0 E2.1
  have K5 : Keep h0 h2 [] := (Keep.refl h0 []).ext E2
  have V2 : Arv Z h2 b2 k2 .byte (4 : Int32) [(.int 0), (.int 0), (.int 0), (.int 0)] (.int 0) := (Arv.new A2 (by decide)).pad (pad_rep [] (.int 0) 4)
  have fa6 := (Vx1.ext E2)
  obtain ⟨c7, Arc7, -, Sc7, Mc7, -, -⟩ := id fa6
  obtain ⟨_, _, ⟨T8, L8, k8, n8⟩, -, X8, ⟨Lc8, hQ8, l8, y8, z8⟩, st8⟩ := Jvm.LawKit.callS X2 hx (y := oM22) hown (mvT hZ (ow hw 105 rfl)) (mvT hZ (ow hw 106 rfl)) (mvT hZ (ow hw 107 rfl)) (mvT hZ (ow hw 108 rfl)) (by decide) (backOf (W := 4) (rm18 l Z a0 hw [] (4 : Int32) h2 n0 Z4 (by first | assumption | decide | omega)) hZ (ow hw 108 rfl) (ow hw 107 rfl) (by decide) (by decide)) (g := (mkF m 24 #[.val (.ref va), .val (.int 0), .val (.int 4), .val (.int 4), .val (.ref b2)] [(.int 4), (.int 16), (.int 0), (.ref b2), (.int 0), (.ref va)])) rfl (by rw [hml]; rfl) (argsL := [(.int 16), (.int 4)]) (rest := [(.int 0), (.ref b2), (.int 0), (.ref va)]) (lenOf pd15 rfl) rfl (Nat.le_of_eq rfl) (hb hby d16_24) (fun _ _ => ⟨rfl, e2, (by decide : 1 + 0 ≤ _), (by decide : 4 + 0 ≤ _)⟩)
  dsimp only [Pt.U, Pt.locs, Pt.cells, Pt.slots] at X8 l8 y8 z8 st8 hQ8
  subst l8 y8 z8
  obtain ⟨rfl, N8q, e8⟩ := hQ8
  have N8 := Fr.app N1 N8q
  obtain ⟨T9, h9, L9, X9, e9, N9, K9, V9, st9⟩ := cpA X8 hx hZ hown (ow hw 109 rfl) (ow hw 112 rfl) (ow hw 110 rfl) (ow hw 111 rfl) e8 fa6 V2 (us := [(.int y0), (.int y1), (.int y2), (.int y3)]) (Or.inl ⟨rfl, rfl⟩) (by decide) (by decide) (by decide) (by decide) (by decide) rfl (by decide) N8 gn_b2 (g := (mkF m 27 #[.val (.ref va), .val (.int 0), .val (.int 4), .val (.int 4), .val (.ref b2)] [(.int 4), (.int 0), (.ref b2), (.int 0), (.ref va)])) rfl (by rw [hml]; rfl) rfl (hb hby d16_27) (by decide) (W := 0) (Nat.le_of_eq rfl) (by decide)
  have Z10 : n0 ≤ h9.size := Nat.le_trans Z4 K9.1
  have K11 : Keep h0 h9 [] := K5.trans K9 (allS (P := fun x => x ∈ _ ∨ _) (Or.inr sz_b2) all0)
  have U9 : Arv Z h9 b2 k2 .byte (4 : Int32) [(.int y0), (.int y1), (.int y2), (.int y3)] (.int 0) := V9
  obtain ⟨fsZ, hrZ, hrun, hended, hW, hsame⟩ := X9.leave (v := some (.ref b2)) (fun h => by rw [Bd.returns] at h; cases h)
  refine ⟨_, _, pre0 _ ?_, hrun, hended, _, _, rfl, ?_, ⟨_, rfl⟩, hW, hsame.mono (by decide) (by decide)⟩
  · show Steps _ _ _ (s₁.setTop (mkF m 0 #[.val (.ref va), .val (.int 0), .val (.int 4), .unset, .unset] [])) _
    refine XS.iloadN X0.here hx rfl (hb hby d16_0) rfl  ?_
    refine XS.iloadN X0.here hx rfl (hb hby d16_1) rfl  ?_
    show Steps _ _ _ (s₁.setTop (mkF m 2 #[.val (.ref va), .val (.int 0), .val (.int 4), .unset, .unset] [(.int 4), (.int 0)])) _
    refine st1 _ ?_
    refine XS.iloadN X1.here hx rfl (hb hby d16_5) rfl  ?_
    refine XS.iloadN X1.here hx rfl (hb hby d16_6) rfl  ?_
    refine XS.isub X1.here hx rfl (hb hby d16_7) rfl ?_
    show Steps _ _ _ (T1.setTop (mkF m 8 #[.val (.ref va), .val (.int 0), .val (.int 4), .unset, .unset] [(.int ((4 : Int32) - (0 : Int32)))])) _
    rw [show ((4 : Int32) - (0 : Int32)) = (4 : Int32) from by decide]
    show Steps _ _ _ (T1.setTop (mkF m 8 #[.val (.ref va), .val (.int 0), .val (.int 4), .unset, .unset] [(.int 4)])) _
    refine XS.istoreN X1.here hx rfl (hb hby d16_8) rfl (l' := #[.val (.ref va), .val (.int 0), .val (.int 4), .val (.int 4), .unset]) rfl ?_
    refine XS.iloadN X1.here hx rfl (hb hby d16_9) rfl  ?_
    show Steps _ _ _ (T1.setTop (mkF m 10 #[.val (.ref va), .val (.int 0), .val (.int 4), .val (.int 4), .unset] [(.int 4)])) _
    refine st2 _ ?_
    refine XS.astore X2.here hx rfl (hb hby d16_12) rfl rfl (l' := #[.val (.ref va), .val (.int 0), .val (.int 4), .val (.int 4), .val (.ref b2)]) rfl ?_
    refine XS.aloadN X2.here hx rfl (hb hby d16_14) rfl rfl ?_
    refine XS.iloadN X2.here hx rfl (hb hby d16_15) rfl  ?_
    refine XS.aload X2.here hx rfl (hb hby d16_16) rfl rfl ?_
    refine XS.iconst X2.here hx rfl (hb hby d16_18) ?_
    refine XS.aloadN X2.here hx rfl (hb hby d16_19) rfl rfl ?_
    show Steps _ _ _ (T2.setTop (mkF m 20 #[.val (.ref va), .val (.int 0), .val (.int 4), .val (.int 4), .val (.ref b2)] [(.ref va), (.int 0), (.ref b2), (.int 0), (.ref va)])) _
    refine X2.arraylength hx (by rw [e2]; exact Arc7.1) (State.isArrayOf_alike hZ.alike Arc7.2.1) (g := (mkF m 20 #[.val (.ref va), .val (.int 0), .val (.int 4), .val (.int 4), .val (.ref b2)] [(.ref va), (.int 0), (.ref b2), (.int 0), (.ref va)])) rfl rfl (hb hby d16_20) _ ?_
    rw [len_of Sc7 Mc7]
    show Steps _ _ _ (T2.setTop (mkF m 21 #[.val (.ref va), .val (.int 0), .val (.int 4), .val (.int 4), .val (.ref b2)] [(.int 16), (.int 0), (.ref b2), (.int 0), (.ref va)])) _
    refine XS.iloadN X2.here hx rfl (hb hby d16_21) rfl  ?_
    refine XS.isub X2.here hx rfl (hb hby d16_22) rfl ?_
    show Steps _ _ _ (T2.setTop (mkF m 23 #[.val (.ref va), .val (.int 0), .val (.int 4), .val (.int 4), .val (.ref b2)] [(.int ((16 : Int32) - (0 : Int32))), (.int 0), (.ref b2), (.int 0), (.ref va)])) _
    rw [show ((16 : Int32) - (0 : Int32)) = (16 : Int32) from by decide]
    show Steps _ _ _ (T2.setTop (mkF m 23 #[.val (.ref va), .val (.int 0), .val (.int 4), .val (.int 4), .val (.ref b2)] [(.int 16), (.int 0), (.ref b2), (.int 0), (.ref va)])) _
    refine XS.iloadN X2.here hx rfl (hb hby d16_23) rfl  ?_
    show Steps _ _ _ (T2.setTop (mkF m 24 #[.val (.ref va), .val (.int 0), .val (.int 4), .val (.int 4), .val (.ref b2)] [(.int 4), (.int 16), (.int 0), (.ref b2), (.int 0), (.ref va)])) _
    refine st8 _ ?_
    show Steps _ _ _ (T8.setTop (mkF m 27 #[.val (.ref va), .val (.int 0), .val (.int 4), .val (.int 4), .val (.ref b2)] [(.int 4), (.int 0), (.ref b2), (.int 0), (.ref va)])) _
    refine st9 _ ?_
    refine XS.aload X9.here hx rfl (hb hby d16_30) rfl rfl ?_
    show Steps _ _ _ (T9.setTop (mkF m 32 #[.val (.ref va), .val (.int 0), .val (.int 4), .val (.int 4), .val (.ref b2)] [(.ref b2)])) _
    jvm_step X9.here [X9.here.top, hx, (hb hby d16_32), X9.method', Bd.returns, Value.isRef, FieldType.isReference]
    first | (intro acts; rw [hrZ _ acts rfl rfl rfl]) | rw [hrZ _ _ rfl rfl rfl]
    exact Steps.refl _
  · show Q16n4 Z va kv y0 y1 y2 y3 h0 n0 _ T9.heap _
    rw [e9]
    exact ⟨b2, k2, rfl, N9, K11, gn_b2, sz_b2, U9⟩
theorem ef15n4 (m : MethodId) (va : Addr) : entryFrame m #[(.ref va), (.int 0), (.int 4)] 3 = mkF m 0 #[.val (.ref va), .val (.int 0), .val (.int 4)] [] := by first | (simp [entryFrame, mkF, argsToLocals, Value.category]; done) | rfl
def Q15n4 (Z : State) (va : Addr) (kv : ClassId) (y0 : Int32) (y1 : Int32) (y2 : Int32) (y3 : Int32) (h0 : Heap) (n0 : Nat) (v : Option Value) (h : Heap) (L : List Loc) : Prop := ∃ (vb : Addr) (kb : ClassId), v = some (.ref vb) ∧ Fr n0 L ∧ Keep h0 h [] ∧ n0 ≤ vb ∧ h0.size ≤ vb ∧ Arv Z h vb kb .byte (4 : Int32) [(.int y0), (.int y1), (.int y2), (.int y3)] (.int 0)
theorem rm15n4 (l : Launch) (Z : State) (a0 : Array Value) (hw : ∀ d ∈ tables_1, d.before a0 Z = true) (ws : List Jvm.Cond) (va : Addr) (kv : ClassId) (y0 : Int32) (y1 : Int32) (y2 : Int32) (y3 : Int32) (h0 : Heap) (n0 : Nat) (Z0 : n0 ≤ h0.size) (Vx1 : Arv Z h0 va kv .byte (16 : Int32) [(.int y0), (.int y1), (.int y2), (.int y3)] (.int 0)) :
    MetFree l oM24 (head1 (Jvm.Cond.code oM24 jdk_65_method_132_code 3 (some (.array .byte)) :: ws) oR21) (fun a U => a = #[(.ref va), (.int 0), (.int 4)] ∧ Z.Warmed39 U.vm ∧ U.heap = h0) (fun _ _ _ _ _ => True) (fun _ U o U' => ∃ v L, o = .returned v ∧ Q15n4 Z va kv y0 y1 y2 y3 h0 n0 v U'.heap L ∧ FrameEnd U o U' L oR21.cells oR21.slots) := by
  refine MetFree.of_bodySF (plainFor_of_name pn13) hisR ?_
  intro p e s m args below meth c s₁ Bd hml0 hP hK
  obtain ⟨rfl, hZ, hh⟩ := hP
  have hx := Bd.exec
  have hby := Bd.bytes
  have hml : c.maxLocals = 3 := hml0
  have hown : s.vm.findClass "java/util/Arrays" = some m.cls := findClass_of_methodNamed Bd.named
  have hnm := (name_of_methodNamed Bd.named Bd.method).1
  have X0 : Stand p l e oR21 s m #[(.ref va), (.int 0), (.int 4)] below meth c s₁ [] 0 0 := Stand.of_body Bd
  have e0 : s₁.heap = h0 := by rw [← hh, Bd.state]; rfl
  have N0 := Fr.nil n0
  have pre0 : ∀ tZ, Steps p.tables e below (s₁.setTop (mkF m 0 #[.val (.ref va), .val (.int 0), .val (.int 4)] [])) tZ → Steps p.tables e below (s₁.setTop (entryFrame m #[(.ref va), (.int 0), (.int 4)] 3)) tZ := fun tZ kZ => castTop (ef15n4 m va) kZ
  obtain ⟨c1, Arc1, -, Sc1, Mc1, -, -⟩ := id Vx1
  obtain ⟨_, _, ⟨T2, L2, k2, n2⟩, -, X2, ⟨Lc2, hQ2, l2, y2, z2⟩, st2⟩ := Jvm.LawKit.callS X0 hx (y := oM23) hown (mvT hZ (ow hw 99 rfl)) (mvT hZ (ow hw 100 rfl)) (mvT hZ (ow hw 97 rfl)) (mvT hZ (ow hw 101 rfl)) (by decide) (backOf (W := 0) (rm16n4 l Z a0 hw [] va kv y0 y1 y2 y3 h0 n0 Z0 Vx1) hZ (ow hw 101 rfl) (ow hw 97 rfl) (by decide) (by decide)) (g := (mkF m 13 #[.val (.ref va), .val (.int 0), .val (.int 4)] [(.int 4), (.int 0), (.ref va)])) rfl (by rw [hml]; rfl) (argsL := [(.ref va), (.int 0), (.int 4)]) (rest := []) (lenOf pd16 rfl) rfl (Nat.le_of_eq rfl) (hb hby d15_13) (fun _ _ => ⟨rfl, e0, (by decide : 0 + 1 ≤ _), (by decide : 0 + 4 ≤ _)⟩)
  dsimp only [Pt.U, Pt.locs, Pt.cells, Pt.slots] at X2 l2 y2 z2 st2 hQ2
  subst l2 y2 z2
  obtain ⟨vb_3, kb_4, rfl, N2q, K2, u2_0, u2_1, f2_0⟩ := hQ2
  have N2 := Fr.app N0 N2q
  have Z5 : n0 ≤ T2.heap.size := Nat.le_trans Z0 K2.1
  have K6 : Keep h0 T2.heap [] := (Keep.refl h0 []).trans K2 all0
  have ne7 : va ≠ vb_3 := Nat.ne_of_lt (Nat.lt_of_lt_of_le Vx1.lt u2_1)
  have sz_vb_3 : h0.size ≤ vb_3 := Nat.le_trans (Keep.refl h0 []).1 u2_1
  obtain ⟨fsZ, hrZ, hrun, hended, hW, hsame⟩ := X2.leave (v := some (.ref vb_3)) (fun h => by rw [Bd.returns] at h; cases h)
  refine ⟨_, _, pre0 _ ?_, hrun, hended, _, _, rfl, ?_, ⟨_, rfl⟩, hW, hsame.mono (by decide) (by decide)⟩
  · show Steps _ _ _ (s₁.setTop (mkF m 0 #[.val (.ref va), .val (.int 0), .val (.int 4)] [])) _
    refine XS.iloadN X0.here hx rfl (hb hby d15_0) rfl  ?_
    refine XS.ifNo X0.here hx rfl (hb hby d15_1) rfl ((if0 _ _).trans (teq (by decide)).2) ?_
    refine XS.iloadN X0.here hx rfl (hb hby d15_4) rfl  ?_
    refine XS.aloadN X0.here hx rfl (hb hby d15_5) rfl rfl ?_
    show Steps _ _ _ (s₁.setTop (mkF m 6 #[.val (.ref va), .val (.int 0), .val (.int 4)] [(.ref va), (.int 4)])) _
    refine X0.arraylength hx (by rw [e0]; exact Arc1.1) (State.isArrayOf_alike hZ.alike Arc1.2.1) (g := (mkF m 6 #[.val (.ref va), .val (.int 0), .val (.int 4)] [(.ref va), (.int 4)])) rfl rfl (hb hby d15_6) _ ?_
    rw [len_of Sc1 Mc1]
    show Steps _ _ _ (s₁.setTop (mkF m 7 #[.val (.ref va), .val (.int 0), .val (.int 4)] [(.int 16), (.int 4)])) _
    refine XS.icmpNo X0.here hx rfl (hb hby d15_7) rfl (feq (by decide)).1 ?_
    refine XS.aloadN X0.here hx rfl (hb hby d15_10) rfl rfl ?_
    refine XS.iloadN X0.here hx rfl (hb hby d15_11) rfl  ?_
    refine XS.iloadN X0.here hx rfl (hb hby d15_12) rfl  ?_
    show Steps _ _ _ (s₁.setTop (mkF m 13 #[.val (.ref va), .val (.int 0), .val (.int 4)] [(.int 4), (.int 0), (.ref va)])) _
    refine st2 _ ?_
    show Steps _ _ _ (T2.setTop (mkF m 16 #[.val (.ref va), .val (.int 0), .val (.int 4)] [(.ref vb_3)])) _
    jvm_step X2.here [X2.here.top, hx, (hb hby d15_16), X2.method', Bd.returns, Value.isRef, FieldType.isReference]
    first | (intro acts; rw [hrZ _ acts rfl rfl rfl]) | rw [hrZ _ _ rfl rfl rfl]
    exact Steps.refl _
  · show Q15n4 Z va kv y0 y1 y2 y3 h0 n0 _ T2.heap _
    exact ⟨vb_3, kb_4, rfl, N2, K6, u2_0, sz_vb_3, f2_0⟩
theorem ef10n4 (m : MethodId) (sa : Addr) (b : Addr) : entryFrame m #[(.ref sa), (.ref b), .null] 5 = mkF m 0 #[.val (.ref sa), .val (.ref b), .val .null, .unset, .unset] [] := by first | (simp [entryFrame, mkF, argsToLocals, Value.category]; done) | rfl
def Q10n4 (Z : State) (sa : Addr) (b : Addr) (u1 : Value) (u2 : Value) (va : Addr) (kv : ClassId) (y0 : Int32) (y1 : Int32) (y2 : Int32) (y3 : Int32) (cs : Int32) (h0 : Heap) (n0 : Nat) (v : Option Value) (h : Heap) (L : List Loc) : Prop := ∃ (vb : Addr) (kb : ClassId), v = none ∧ Fr n0 L ∧ Keep h0 h [sa] ∧ n0 ≤ vb ∧ h0.size ≤ vb ∧ Exa Z h sa oS ∧ Fld Z h sa oS "coder" "B" (.int 0) ∧ Fld Z h sa oS "value" "[B" (.ref vb) ∧ Arv Z h vb kb .byte (4 : Int32) [(.int y0), (.int y1), (.int y2), (.int y3)] (.int 0)
theorem rm10n4 (l : Launch) (Z : State) (a0 : Array Value) (hw : ∀ d ∈ tables_1, d.before a0 Z = true) (ws : List Jvm.Cond) (sa : Addr) (b : Addr) (u1 : Value) (u2 : Value) (va : Addr) (kv : ClassId) (y0 : Int32) (y1 : Int32) (y2 : Int32) (y3 : Int32) (cs : Int32) (h0 : Heap) (n0 : Nat) (Z0 : n0 ≤ h0.size) (Ex0 : Exa Z h0 sa oS) (S1 : Fld Z h0 sa oS "coder" "B" u1) (S2 : Fld Z h0 sa oS "value" "[B" u2) (gx0 : n0 ≤ sa) (F0 : Exa Z h0 b oB) (F1 : Fld Z h0 b oA "value" "[B" (.ref va)) (F2 : Fld Z h0 b oA "coder" "B" (.int 0)) (F3 : Fld Z h0 b oA "count" "I" (.int 4)) (F4 : Arv Z h0 va kv .byte (16 : Int32) [(.int y0), (.int y1), (.int y2), (.int y3)] (.int 0)) (nx0_ : sa ≠ b) (nx1_ : sa ≠ va) (Cs : Sta Z Z.heap oS "COMPACT_STRINGS" "Z" (.int cs)) (hcs : ¬ (cs = (0 : Int32))) (Ox : Old Z n0 h0) :
    MetFree l oM25 (head1 (Jvm.Cond.code oM25 jdk_42_method_150_code 5 none :: ws) oR22) (fun a U => a = #[(.ref sa), (.ref b), .null] ∧ Z.Warmed39 U.vm ∧ U.heap = h0) (fun _ _ _ _ _ => True) (fun _ U o U' => ∃ v L, o = .returned v ∧ Q10n4 Z sa b u1 u2 va kv y0 y1 y2 y3 cs h0 n0 v U'.heap L ∧ FrameEnd U o U' L oR22.cells oR22.slots) := by
  refine MetFree.of_bodySF (plainFor_of_name pn17) hisR ?_
  intro p e s m args below meth c s₁ Bd hml0 hP hK
  obtain ⟨rfl, hZ, hh⟩ := hP
  have hx := Bd.exec
  have hby := Bd.bytes
  have hml : c.maxLocals = 5 := hml0
  have hown : s.vm.findClass oS = some m.cls := findClass_of_methodNamed Bd.named
  have hnm := (name_of_methodNamed Bd.named Bd.method).1
  have X0 : Stand p l e oR22 s m #[(.ref sa), (.ref b), .null] below meth c s₁ [] 0 0 := Stand.of_body Bd
  have e0 : s₁.heap = h0 := by rw [← hh, Bd.state]; rfl
  have N0 := Fr.nil n0
  have pre0 : ∀ tZ, Steps p.tables e below (s₁.setTop (mkF m 0 #[.val (.ref sa), .val (.ref b), .val .null, .unset, .unset] [])) tZ → Steps p.tables e below (s₁.setTop (entryFrame m #[(.ref sa), (.ref b), .null] 5)) tZ := fun tZ kZ => castTop (ef10n4 m sa b) kZ
  obtain ⟨T1, X1, e1, st1⟩ := initO X0 hx hZ hown (ow hw 72 rfl) (ow hw 16 rfl) (ow hw 17 rfl) e0 (g := (mkF m 1 #[.val (.ref sa), .val (.ref b), .val .null, .unset, .unset] [(.ref sa)])) rfl (by rw [hml]; rfl) rfl (hb hby d10_1) (by decide) (W := 0) (Nat.le_of_eq rfl) (by decide)
  obtain ⟨cq2, kq2, q2a, q2b, q2c⟩ := isOf hZ e1 F0
  obtain ⟨_, _, ⟨T2, L2, k2, n2⟩, -, X2, ⟨Lc2, hQ2, l2, y2, z2⟩, st2⟩ := X1.virtualBack hx (y := oM18) (z := oM18) hown (mvT hZ (ow hw 73 rfl)) (mvT hZ (ow hw 74 rfl)) (notFace_of_selects (args := #[]) (mvT hZ (ow hw 76 rfl))) (mvT hZ (ow hw 76 rfl)) (mvT hZ (ow hw 75 rfl)) (by decide) (backOf (W := 0) (rm11 l Z a0 hw [] b va h0 n0 Z0 F1) hZ (ow hw 77 rfl) (ow hw 51 rfl) (by decide) (by decide)) q2a q2c (g := (mkF m 5 #[.val (.ref sa), .val (.ref b), .val .null, .unset, .unset] [(.ref b)])) rfl (by rw [hml]; rfl) (Steps.refl _) (argsL := []) (rest := []) (lenOf pd18 rfl) rfl (Nat.le_of_eq rfl) (hb hby d10_5) (fun _ _ => ⟨rfl, e1, (by decide : 0 + 0 ≤ _), (by decide : 0 + 0 ≤ _)⟩)
  dsimp only [Pt.U, Pt.locs, Pt.cells, Pt.slots] at X2 l2 y2 z2 st2 hQ2
  subst l2 y2 z2
  obtain ⟨rfl, N2q, e2⟩ := hQ2
  have N2 := Fr.app N0 N2q
  obtain ⟨cq3, kq3, q3a, q3b, q3c⟩ := isOf hZ e2 F0
  obtain ⟨_, _, ⟨T3, L3, k3, n3⟩, -, X3, ⟨Lc3, hQ3, l3, y3, z3⟩, st3⟩ := X2.virtualBack hx (y := oM19) (z := oM20) hown (mvT hZ (ow hw 78 rfl)) (mvT hZ (ow hw 79 rfl)) (own_nf (mvT hZ (ow hw 76 rfl) (args := #[])) rfl) (mvT hZ (ow hw 81 rfl)) (mvT hZ (ow hw 82 rfl)) (by decide) (backOf (W := 0) (rm12 l Z a0 hw [] b (4 : Int32) h0 n0 Z0 F0 F3) hZ (ow hw 83 rfl) (ow hw 43 rfl) (by decide) (by decide)) q3a q3c (g := (mkF m 10 #[.val (.ref sa), .val (.ref b), .val .null, .val (.ref va), .unset] [(.ref b)])) rfl (by rw [hml]; rfl) (Steps.refl _) (argsL := []) (rest := []) (lenOf pd12 rfl) rfl (Nat.le_of_eq rfl) (hb hby d10_10) (fun _ _ => ⟨rfl, e2, (by decide : 0 + 0 ≤ _), (by decide : 0 + 0 ≤ _)⟩)
  dsimp only [Pt.U, Pt.locs, Pt.cells, Pt.slots] at X3 l3 y3 z3 st3 hQ3
  subst l3 y3 z3
  obtain ⟨rfl, N3q, e3⟩ := hQ3
  have N3 := Fr.app N2 N3q
  obtain ⟨cq4, kq4, q4a, q4b, q4c⟩ := isOf hZ e3 F0
  obtain ⟨_, _, ⟨T4, L4, k4, n4⟩, -, X4, ⟨Lc4, hQ4, l4, y4, z4⟩, st4⟩ := X3.virtualBack hx (y := oM9) (z := oM9) hown (mvT hZ (ow hw 89 rfl)) (mvT hZ (ow hw 90 rfl)) (notFace_of_selects (args := #[]) (mvT hZ (ow hw 92 rfl))) (mvT hZ (ow hw 92 rfl)) (mvT hZ (ow hw 91 rfl)) (by decide) (backOf (W := 0) (rm14 l Z a0 hw [] b cs h0 n0 Z0 F2 Cs (by first | assumption | decide | omega) Ox) hZ (ow hw 93 rfl) (ow hw 51 rfl) (by decide) (by decide)) q4a q4c (g := (mkF m 16 #[.val (.ref sa), .val (.ref b), .val .null, .val (.ref va), .val (.int 4)] [(.ref b)])) rfl (by rw [hml]; rfl) (Steps.refl _) (argsL := []) (rest := []) (lenOf pd2 rfl) rfl (Nat.le_of_eq rfl) (hb hby d10_16) (fun _ _ => ⟨rfl, e3, (by decide : 0 + 0 ≤ _), (by decide : 0 + 0 ≤ _)⟩)
  dsimp only [Pt.U, Pt.locs, Pt.cells, Pt.slots] at X4 l4 y4 z4 st4 hQ4
  subst l4 y4 z4
  obtain ⟨rfl, N4q, e4⟩ := hQ4
  have N4 := Fr.app N3 N4q
  obtain ⟨T5, h5, X5, e5, W5, st5⟩ := putFN X4 hx hZ hown (ow hw 94 rfl) Via.refl e4 S1 Ex0 (Or.inr ⟨(ow hw 6 rfl), rfl, hnm⟩) (ow hw 3 rfl) (ty := .byte) (v' := (.int 0)) (by decide) rfl (by decide) (g := (mkF m 24 #[.val (.ref sa), .val (.ref b), .val .null, .val (.ref va), .val (.int 4)] [(.int 0), (.ref sa)])) rfl rfl (hb hby d10_24)
  have fw5 : Fld Z h5 sa oS "coder" "B" (.int 0) := S1.same W5
  have Z6 : n0 ≤ h5.size := Nat.le_trans Z0 (Nat.le_of_eq W5.size.symm)
  have K7 : Keep h0 h5 [sa] := (Keep.refl h0 [sa]).wr W5 (Or.inl (List.mem_of_getElem? (i := 0) rfl))
  have N5 := Fr.snoc X5 N4 gx0
  have fa8 := (F4.other W5 (Ne.symm nx1_))
  obtain ⟨_, _, ⟨T9, L9, k9, n9⟩, -, X9, ⟨Lc9, hQ9, l9, y9, z9⟩, st9⟩ := Jvm.LawKit.callS X5 hx (y := oM24) hown (mvT hZ (ow hw 95 rfl)) (mvT hZ (ow hw 96 rfl)) (mvT hZ (ow hw 97 rfl)) (mvT hZ (ow hw 98 rfl)) (by decide) (backOf (W := 1) (rm15n4 l Z a0 hw [] va kv y0 y1 y2 y3 h5 n0 Z6 fa8) hZ (ow hw 98 rfl) (ow hw 97 rfl) (by decide) (by decide)) (g := (mkF m 32 #[.val (.ref sa), .val (.ref b), .val .null, .val (.ref va), .val (.int 4)] [(.int 4), (.int 0), (.ref va), (.ref sa)])) rfl (by rw [hml]; rfl) (argsL := [(.ref va), (.int 0), (.int 4)]) (rest := [(.ref sa)]) (lenOf pd16 rfl) rfl (Nat.le_of_eq rfl) (hb hby d10_32) (fun _ _ => ⟨rfl, e5, (by decide : 0 + 1 ≤ _), (by decide : 0 + 4 ≤ _)⟩)
  dsimp only [Pt.U, Pt.locs, Pt.cells, Pt.slots] at X9 l9 y9 z9 st9 hQ9
  subst l9 y9 z9
  obtain ⟨vb_10, kb_11, rfl, N9q, K9, u9_0, u9_1, f9_0⟩ := hQ9
  have N9 := Fr.app N5 N9q
  have Z12 : n0 ≤ T9.heap.size := Nat.le_trans Z6 K9.1
  have K13 : Keep h0 T9.heap [sa] := K7.trans K9 all0
  have ne14 : sa ≠ vb_10 := Nat.ne_of_lt (Nat.lt_of_lt_of_le (Ex0.wr W5).lt u9_1)
  have ne15 : b ≠ vb_10 := Nat.ne_of_lt (Nat.lt_of_lt_of_le (F0.wr W5).lt u9_1)
  have ne16 : va ≠ vb_10 := Nat.ne_of_lt (Nat.lt_of_lt_of_le fa8.lt u9_1)
  have sz_vb_10 : h0.size ≤ vb_10 := Nat.le_trans K7.1 u9_1
  have fa17 := ((S2.other W5 (Or.inr (slot_ne (Or.inr (ow hw 5 rfl)) (Or.inr (ow hw 6 rfl)) (by decide) (t := (.array .byte)) (t' := .byte) (by decide) (by decide)))).keep K9 nin0)
  have fa18 := ((Ex0.wr W5).keep K9)
  obtain ⟨T19, h19, X19, e19, W19, st19⟩ := putF X9 hx hZ hown (host := "") (Or.inl (ow hw 113 rfl)) Via.refl rfl fa17 fa18 (Or.inr ⟨(ow hw 5 rfl), rfl, hnm⟩) (ow hw 3 rfl) (ty := (.array .byte)) (by decide) rfl rfl (g := (mkF m 35 #[.val (.ref sa), .val (.ref b), .val .null, .val (.ref va), .val (.int 4)] [(.ref vb_10), (.ref sa)])) rfl rfl (hb hby d10_35)
  have fw19 : Fld Z h19 sa oS "value" "[B" (.ref vb_10) := fa17.same W19
  have Z20 : n0 ≤ h19.size := Nat.le_trans Z12 (Nat.le_of_eq W19.size.symm)
  have K21 : Keep h0 h19 [sa] := K13.wr W19 (Or.inl (List.mem_of_getElem? (i := 0) rfl))
  have N19 := Fr.snoc X19 N9 gx0
  obtain ⟨fsZ, hrZ, hrun, hended, hW, hsame⟩ := X19.leave (v := none) (fun _ => rfl)
  have fa22 := (fa18.wr W19)
  have fa23 := ((fw5.keep K9 nin0).other W19 (Or.inr (slot_ne (Or.inr (ow hw 6 rfl)) (Or.inr (ow hw 5 rfl)) (by decide) (t := .byte) (t' := (.array .byte)) (by decide) (by decide))))
  have fa24 := (f9_0.other W19 (Ne.symm ne14))
  refine ⟨_, _, pre0 _ ?_, hrun, hended, _, _, rfl, ?_, ⟨_, rfl⟩, hW, hsame.mono (by decide) (by decide)⟩
  · show Steps _ _ _ (s₁.setTop (mkF m 0 #[.val (.ref sa), .val (.ref b), .val .null, .unset, .unset] [])) _
    refine XS.aloadN X0.here hx rfl (hb hby d10_0) rfl rfl ?_
    show Steps _ _ _ (s₁.setTop (mkF m 1 #[.val (.ref sa), .val (.ref b), .val .null, .unset, .unset] [(.ref sa)])) _
    refine st1 _ ?_
    refine XS.aloadN X1.here hx rfl (hb hby d10_4) rfl rfl ?_
    show Steps _ _ _ (T1.setTop (mkF m 5 #[.val (.ref sa), .val (.ref b), .val .null, .unset, .unset] [(.ref b)])) _
    refine st2.trans ?_
    refine XS.astoreN X2.here hx rfl (hb hby d10_8) rfl rfl (l' := #[.val (.ref sa), .val (.ref b), .val .null, .val (.ref va), .unset]) rfl ?_
    refine XS.aloadN X2.here hx rfl (hb hby d10_9) rfl rfl ?_
    show Steps _ _ _ (T2.setTop (mkF m 10 #[.val (.ref sa), .val (.ref b), .val .null, .val (.ref va), .unset] [(.ref b)])) _
    refine st3.trans ?_
    refine XS.istore X3.here hx rfl (hb hby d10_13) rfl (l' := #[.val (.ref sa), .val (.ref b), .val .null, .val (.ref va), .val (.int 4)]) rfl ?_
    refine XS.aloadN X3.here hx rfl (hb hby d10_15) rfl rfl ?_
    show Steps _ _ _ (T3.setTop (mkF m 16 #[.val (.ref sa), .val (.ref b), .val .null, .val (.ref va), .val (.int 4)] [(.ref b)])) _
    refine st4.trans ?_
    refine XS.ifNo X4.here hx rfl (hb hby d10_19) rfl ((if0 _ _).trans (feq (by decide)).1) ?_
    refine XS.aloadN X4.here hx rfl (hb hby d10_22) rfl rfl ?_
    refine XS.iconst X4.here hx rfl (hb hby d10_23) ?_
    show Steps _ _ _ (T4.setTop (mkF m 24 #[.val (.ref sa), .val (.ref b), .val .null, .val (.ref va), .val (.int 4)] [(.int 0), (.ref sa)])) _
    refine st5 _ ?_
    refine XS.aloadN X5.here hx rfl (hb hby d10_27) rfl rfl ?_
    refine XS.aloadN X5.here hx rfl (hb hby d10_28) rfl rfl ?_
    refine XS.iconst X5.here hx rfl (hb hby d10_29) ?_
    refine XS.iload X5.here hx rfl (hb hby d10_30) rfl  ?_
    show Steps _ _ _ (T5.setTop (mkF m 32 #[.val (.ref sa), .val (.ref b), .val .null, .val (.ref va), .val (.int 4)] [(.int 4), (.int 0), (.ref va), (.ref sa)])) _
    refine st9 _ ?_
    show Steps _ _ _ (T9.setTop (mkF m 35 #[.val (.ref sa), .val (.ref b), .val .null, .val (.ref va), .val (.int 4)] [(.ref vb_10), (.ref sa)])) _
    refine st19 _ ?_
    refine XS.goto X19.here hx rfl (pc0 := 38) (pc' := 97) rfl (hb hby d10_38) (by decide) (by decide) ?_
    show Steps _ _ _ (T19.setTop (mkF m 97 #[.val (.ref sa), .val (.ref b), .val .null, .val (.ref va), .val (.int 4)] [])) _
    exact X19.returnOut hx Bd.returns (hb hby d10_97) hrZ
  · show Q10n4 Z sa b u1 u2 va kv y0 y1 y2 y3 cs h0 n0 _ T19.heap _
    rw [e19]
    exact ⟨vb_10, kb_11, rfl, N19, K21, u9_0, sz_vb_10, fa22, fa23, fw19, fa24⟩
theorem ef9n4 (m : MethodId) (sa : Addr) (b : Addr) : entryFrame m #[(.ref sa), (.ref b)] 2 = mkF m 0 #[.val (.ref sa), .val (.ref b)] [] := by first | (simp [entryFrame, mkF, argsToLocals, Value.category]; done) | rfl
def Q9n4 (Z : State) (sa : Addr) (b : Addr) (u1 : Value) (u2 : Value) (va : Addr) (kv : ClassId) (y0 : Int32) (y1 : Int32) (y2 : Int32) (y3 : Int32) (cs : Int32) (h0 : Heap) (n0 : Nat) (v : Option Value) (h : Heap) (L : List Loc) : Prop := ∃ (vb : Addr) (kb : ClassId), v = none ∧ Fr n0 L ∧ Keep h0 h [sa] ∧ n0 ≤ vb ∧ h0.size ≤ vb ∧ Exa Z h sa oS ∧ Fld Z h sa oS "coder" "B" (.int 0) ∧ Fld Z h sa oS "value" "[B" (.ref vb) ∧ Arv Z h vb kb .byte (4 : Int32) [(.int y0), (.int y1), (.int y2), (.int y3)] (.int 0)
theorem rm9n4 (l : Launch) (Z : State) (a0 : Array Value) (hw : ∀ d ∈ tables_1, d.before a0 Z = true) (ws : List Jvm.Cond) (sa : Addr) (b : Addr) (u1 : Value) (u2 : Value) (va : Addr) (kv : ClassId) (y0 : Int32) (y1 : Int32) (y2 : Int32) (y3 : Int32) (cs : Int32) (h0 : Heap) (n0 : Nat) (Z0 : n0 ≤ h0.size) (Ex0 : Exa Z h0 sa oS) (S1 : Fld Z h0 sa oS "coder" "B" u1) (S2 : Fld Z h0 sa oS "value" "[B" u2) (gx0 : n0 ≤ sa) (F0 : Exa Z h0 b oB) (F1 : Fld Z h0 b oA "value" "[B" (.ref va)) (F2 : Fld Z h0 b oA "coder" "B" (.int 0)) (F3 : Fld Z h0 b oA "count" "I" (.int 4)) (F4 : Arv Z h0 va kv .byte (16 : Int32) [(.int y0), (.int y1), (.int y2), (.int y3)] (.int 0)) (nx0_ : sa ≠ b) (nx1_ : sa ≠ va) (Cs : Sta Z Z.heap oS "COMPACT_STRINGS" "Z" (.int cs)) (hcs : ¬ (cs = (0 : Int32))) (Ox : Old Z n0 h0) :
    MetFree l oM26 (head1 (Jvm.Cond.code oM26 jdk_42_method_53_code 2 none :: ws) oR23) (fun a U => a = #[(.ref sa), (.ref b)] ∧ Z.Warmed39 U.vm ∧ U.heap = h0) (fun _ _ _ _ _ => True) (fun _ U o U' => ∃ v L, o = .returned v ∧ Q9n4 Z sa b u1 u2 va kv y0 y1 y2 y3 cs h0 n0 v U'.heap L ∧ FrameEnd U o U' L oR23.cells oR23.slots) := by
  refine MetFree.of_bodySF (plainFor_of_name pn17) hisR ?_
  intro p e s m args below meth c s₁ Bd hml0 hP hK
  obtain ⟨rfl, hZ, hh⟩ := hP
  have hx := Bd.exec
  have hby := Bd.bytes
  have hml : c.maxLocals = 2 := hml0
  have hown : s.vm.findClass oS = some m.cls := findClass_of_methodNamed Bd.named
  have hnm := (name_of_methodNamed Bd.named Bd.method).1
  have X0 : Stand p l e oR23 s m #[(.ref sa), (.ref b)] below meth c s₁ [] 0 0 := Stand.of_body Bd
  have e0 : s₁.heap = h0 := by rw [← hh, Bd.state]; rfl
  have N0 := Fr.nil n0
  have pre0 : ∀ tZ, Steps p.tables e below (s₁.setTop (mkF m 0 #[.val (.ref sa), .val (.ref b)] [])) tZ → Steps p.tables e below (s₁.setTop (entryFrame m #[(.ref sa), (.ref b)] 2)) tZ := fun tZ kZ => castTop (ef9n4 m sa b) kZ
  obtain ⟨_, _, ⟨T1, L1, k1, n1⟩, -, X1, ⟨Lc1, hQ1, l1, y1, z1⟩, st1⟩ := X0.specialBack hx (y := oM25) rfl hown (mvT hZ (ow hw 69 rfl)) (mvT hZ (ow hw 70 rfl)) (mvT hZ (ow hw 71 rfl)) (by decide) (backOf (W := 0) (rm10n4 l Z a0 hw [] sa b u1 u2 va kv y0 y1 y2 y3 cs h0 n0 Z0 Ex0 S1 S2 gx0 F0 F1 F2 F3 F4 nx0_ nx1_ Cs (by first | assumption | decide | omega) Ox) hZ (ow hw 71 rfl) (ow hw 2 rfl) (by decide) (by decide)) (g := (mkF m 3 #[.val (.ref sa), .val (.ref b)] [.null, (.ref b), (.ref sa)])) rfl (by rw [hml]; rfl) (Steps.refl _) (a := sa) (argsL := [(.ref b), .null]) (rest := []) (lenOf pd19 rfl) rfl (Nat.le_of_eq rfl) (hb hby d9_3) (fun _ _ => ⟨rfl, e0, (by decide : 0 + 1 ≤ _), (by decide : 0 + 4 ≤ _)⟩)
  dsimp only [Pt.U, Pt.locs, Pt.cells, Pt.slots] at X1 l1 y1 z1 st1 hQ1
  subst l1 y1 z1
  obtain ⟨vb_2, kb_3, rfl, N1q, K1, u1_0, u1_1, f1_0, f1_1, f1_2, f1_3⟩ := hQ1
  have N1 := Fr.app N0 N1q
  have Z4 : n0 ≤ T1.heap.size := Nat.le_trans Z0 K1.1
  have K5 : Keep h0 T1.heap [sa] := (Keep.refl h0 [sa]).trans K1 (allS (P := fun x => x ∈ _ ∨ _) (Or.inl (List.mem_of_getElem? (i := 0) rfl)) all0)
  have ne6 : sa ≠ vb_2 := Nat.ne_of_lt (Nat.lt_of_lt_of_le Ex0.lt u1_1)
  have ne7 : b ≠ vb_2 := Nat.ne_of_lt (Nat.lt_of_lt_of_le F0.lt u1_1)
  have ne8 : va ≠ vb_2 := Nat.ne_of_lt (Nat.lt_of_lt_of_le F4.lt u1_1)
  have sz_vb_2 : h0.size ≤ vb_2 := Nat.le_trans (Keep.refl h0 [sa]).1 u1_1
  obtain ⟨fsZ, hrZ, hrun, hended, hW, hsame⟩ := X1.leave (v := none) (fun _ => rfl)
  refine ⟨_, _, pre0 _ ?_, hrun, hended, _, _, rfl, ?_, ⟨_, rfl⟩, hW, hsame.mono (by decide) (by decide)⟩
  · show Steps _ _ _ (s₁.setTop (mkF m 0 #[.val (.ref sa), .val (.ref b)] [])) _
    refine XS.aloadN X0.here hx rfl (hb hby d9_0) rfl rfl ?_
    refine XS.aloadN X0.here hx rfl (hb hby d9_1) rfl rfl ?_
    refine XS.aconstNull X0.here hx rfl (hb hby d9_2) ?_
    show Steps _ _ _ (s₁.setTop (mkF m 3 #[.val (.ref sa), .val (.ref b)] [.null, (.ref b), (.ref sa)])) _
    refine st1.trans ?_
    show Steps _ _ _ (T1.setTop (mkF m 6 #[.val (.ref sa), .val (.ref b)] [])) _
    exact X1.returnOut hx Bd.returns (hb hby d9_6) hrZ
  · show Q9n4 Z sa b u1 u2 va kv y0 y1 y2 y3 cs h0 n0 _ T1.heap _
    exact ⟨vb_2, kb_3, rfl, N1, K5, u1_0, sz_vb_2, f1_0, f1_1, f1_2, f1_3⟩
theorem ef8n4 (m : MethodId) (b : Addr) : entryFrame m #[(.ref b)] 1 = mkF m 0 #[.val (.ref b)] [] := by first | (simp [entryFrame, mkF, argsToLocals, Value.category]; done) | rfl
def Q8n4 (Z : State) (b : Addr) (va : Addr) (kv : ClassId) (y0 : Int32) (y1 : Int32) (y2 : Int32) (y3 : Int32) (cs : Int32) (h0 : Heap) (n0 : Nat) (v : Option Value) (h : Heap) (L : List Loc) : Prop := ∃ (sa : Addr) (vb : Addr) (kb : ClassId), v = some (.ref sa) ∧ Fr n0 L ∧ Keep h0 h [] ∧ n0 ≤ sa ∧ h0.size ≤ sa ∧ n0 ≤ vb ∧ h0.size ≤ vb ∧ Exa Z h sa oS ∧ Fld Z h sa oS "coder" "B" (.int 0) ∧ Fld Z h sa oS "value" "[B" (.ref vb) ∧ Arv Z h vb kb .byte (4 : Int32) [(.int y0), (.int y1), (.int y2), (.int y3)] (.int 0)
theorem rm8n4 (l : Launch) (Z : State) (a0 : Array Value) (hw : ∀ d ∈ tables_1, d.before a0 Z = true) (ws : List Jvm.Cond) (b : Addr) (va : Addr) (kv : ClassId) (y0 : Int32) (y1 : Int32) (y2 : Int32) (y3 : Int32) (cs : Int32) (h0 : Heap) (n0 : Nat) (Z0 : n0 ≤ h0.size) (F0 : Exa Z h0 b oB) (F1 : Fld Z h0 b oA "value" "[B" (.ref va)) (F2 : Fld Z h0 b oA "coder" "B" (.int 0)) (F3 : Fld Z h0 b oA "count" "I" (.int 4)) (F4 : Arv Z h0 va kv .byte (16 : Int32) [(.int y0), (.int y1), (.int y2), (.int y3)] (.int 0)) (Cs : Sta Z Z.heap oS "COMPACT_STRINGS" "Z" (.int cs)) (hcs : ¬ (cs = (0 : Int32))) (Ox : Old Z n0 h0) :
    MetFree l oM27 (head1 (Jvm.Cond.code oM27 jdk_67_method_42_code 1 (some (.object oS)) :: ws) oR24) (fun a U => a = #[(.ref b)] ∧ Z.Warmed39 U.vm ∧ U.heap = h0) (fun _ _ _ _ _ => True) (fun _ U o U' => ∃ v L, o = .returned v ∧ Q8n4 Z b va kv y0 y1 y2 y3 cs h0 n0 v U'.heap L ∧ FrameEnd U o U' L oR24.cells oR24.slots) := by
  refine MetFree.of_bodySF (plainFor_of_name pn4) hisR ?_
  intro p e s m args below meth c s₁ Bd hml0 hP hK
  obtain ⟨rfl, hZ, hh⟩ := hP
  have hx := Bd.exec
  have hby := Bd.bytes
  have hml : c.maxLocals = 1 := hml0
  have hown : s.vm.findClass oB = some m.cls := findClass_of_methodNamed Bd.named
  have hnm := (name_of_methodNamed Bd.named Bd.method).1
  have X0 : Stand p l e oR24 s m #[(.ref b)] below meth c s₁ [] 0 0 := Stand.of_body Bd
  have e0 : s₁.heap = h0 := by rw [← hh, Bd.state]; rfl
  have N0 := Fr.nil n0
  have pre0 : ∀ tZ, Steps p.tables e below (s₁.setTop (mkF m 0 #[.val (.ref b)] [])) tZ → Steps p.tables e below (s₁.setTop (entryFrame m #[(.ref b)] 1)) tZ := fun tZ kZ => castTop (ef8n4 m b) kZ
  obtain ⟨T1, h1, X1, e1, E1, A1, D1, -, st1⟩ := newO X0 hx hZ hown (ow hw 64 rfl) (ow hw 3 rfl) (ow hw 2 rfl) e0 (g := (mkF m 0 #[.val (.ref b)] [])) rfl (hb hby d8_0) (by decide) (by decide)
  obtain ⟨b1, g1⟩ : ∃ z, z = h0.size := ⟨_, rfl⟩
  rw [← g1] at A1 D1 st1
  have ne2 : b ≠ b1 := Nat.ne_of_lt (Nat.lt_of_lt_of_le F0.lt (Nat.le_of_eq g1.symm))
  have ne3 : va ≠ b1 := Nat.ne_of_lt (Nat.lt_of_lt_of_le F4.lt (Nat.le_of_eq g1.symm))
  have gn_b1 : n0 ≤ b1 := Nat.le_trans Z0 (Nat.le_of_eq g1.symm)
  have sz_b1 : h0.size ≤ b1 := Nat.le_trans (Keep.refl h0 []).1 (Nat.le_of_eq g1.symm)
  have Z4 : n0 ≤ h1.size := Nat.le_trans Z0 E1.1
  have K5 : Keep h0 h1 [] := (Keep.refl h0 []).ext E1
  have F_value_b1 : Fld Z h1 b1 oS "value" "[B" .null := D1 (Or.inr (ow hw 5 rfl)) (ty := (.array .byte)) (by decide)
  have F_coder_b1 : Fld Z h1 b1 oS "coder" "B" (.int 0) := D1 (Or.inr (ow hw 6 rfl)) (ty := .byte) (by decide)
  have fa6 := (F0.ext E1)
  have fa7 := (F1.ext E1)
  have fa8 := (F2.ext E1)
  have fa9 := (F3.ext E1)
  have fa10 := (F4.ext E1)
  have fa11 := (Ox.ext E1)
  obtain ⟨_, _, ⟨T12, L12, k12, n12⟩, -, X12, ⟨Lc12, hQ12, l12, y12, z12⟩, st12⟩ := X1.specialBack hx (y := oM26) rfl hown (mvT hZ (ow hw 65 rfl)) (mvT hZ (ow hw 66 rfl)) (mvT hZ (ow hw 68 rfl)) (by decide) (backOf (W := 1) (rm9n4 l Z a0 hw [] b1 b (.int 0) .null va kv y0 y1 y2 y3 cs h1 n0 Z4 A1 F_coder_b1 F_value_b1 gn_b1 fa6 fa7 fa8 fa9 fa10 (Ne.symm ne2) (Ne.symm ne3) Cs (by first | assumption | decide | omega) fa11) hZ (ow hw 68 rfl) (ow hw 2 rfl) (by decide) (by decide)) (g := (mkF m 5 #[.val (.ref b)] [(.ref b), (.ref b1), (.ref b1)])) rfl (by rw [hml]; rfl) (Steps.refl _) (a := b1) (argsL := [(.ref b)]) (rest := [(.ref b1)]) (lenOf pd20 rfl) rfl (Nat.le_of_eq rfl) (hb hby d8_5) (fun _ _ => ⟨rfl, e1, (by decide : 1 + 1 ≤ _), (by decide : 4 + 4 ≤ _)⟩)
  dsimp only [Pt.U, Pt.locs, Pt.cells, Pt.slots] at X12 l12 y12 z12 st12 hQ12
  subst l12 y12 z12
  obtain ⟨vb_13, kb_14, rfl, N12q, K12, u12_0, u12_1, f12_0, f12_1, f12_2, f12_3⟩ := hQ12
  have N12 := Fr.app N0 N12q
  have Z15 : n0 ≤ T12.heap.size := Nat.le_trans Z4 K12.1
  have K16 : Keep h0 T12.heap [] := K5.trans K12 (allS (P := fun x => x ∈ _ ∨ _) (Or.inr sz_b1) all0)
  have ne17 : b ≠ vb_13 := Nat.ne_of_lt (Nat.lt_of_lt_of_le fa6.lt u12_1)
  have ne18 : va ≠ vb_13 := Nat.ne_of_lt (Nat.lt_of_lt_of_le fa10.lt u12_1)
  have ne19 : b1 ≠ vb_13 := Nat.ne_of_lt (Nat.lt_of_lt_of_le A1.lt u12_1)
  have sz_vb_13 : h0.size ≤ vb_13 := Nat.le_trans K5.1 u12_1
  obtain ⟨fsZ, hrZ, hrun, hended, hW, hsame⟩ := X12.leave (v := some (.ref b1)) (fun h => by rw [Bd.returns] at h; cases h)
  refine ⟨_, _, pre0 _ ?_, hrun, hended, _, _, rfl, ?_, ⟨_, rfl⟩, hW, hsame.mono (by decide) (by decide)⟩
  · show Steps _ _ _ (s₁.setTop (mkF m 0 #[.val (.ref b)] [])) _
    refine st1 _ ?_
    refine XS.dup X1.here hx rfl (hb hby d8_3) rfl rfl ?_
    refine XS.aloadN X1.here hx rfl (hb hby d8_4) rfl rfl ?_
    show Steps _ _ _ (T1.setTop (mkF m 5 #[.val (.ref b)] [(.ref b), (.ref b1), (.ref b1)])) _
    refine st12.trans ?_
    show Steps _ _ _ (T12.setTop (mkF m 8 #[.val (.ref b)] [(.ref b1)])) _
    jvm_step X12.here [X12.here.top, hx, (hb hby d8_8), X12.method', Bd.returns, Value.isRef, FieldType.isReference]
    first | (intro acts; rw [hrZ _ acts rfl rfl rfl]) | rw [hrZ _ _ rfl rfl rfl]
    exact Steps.refl _
  · show Q8n4 Z b va kv y0 y1 y2 y3 cs h0 n0 _ T12.heap _
    exact ⟨b1, vb_13, kb_14, rfl, N12, K16, gn_b1, sz_b1, u12_0, sz_vb_13, f12_0, f12_1, f12_2, f12_3⟩
theorem d5_0 : decode prog_48_method_11_code 0 = .ok (.new 40, 3) := by decide +kernel
theorem d5_3 : decode prog_48_method_11_code 3 = .ok (.dup, 1) := by decide +kernel
theorem d5_4 : decode prog_48_method_11_code 4 = .ok (.invokespecial 42, 3) := by decide +kernel
theorem pd21 : parseMethodDescriptor "()V" = some ⟨[], none⟩ := by decide +kernel
theorem d5_7 : decode prog_48_method_11_code 7 = .ok (.astore_n 1, 1) := by decide +kernel
theorem d5_8 : decode prog_48_method_11_code 8 = .ok (.iconst 0, 1) := by decide +kernel
theorem d5_9 : decode prog_48_method_11_code 9 = .ok (.istore_n 2, 1) := by decide +kernel
theorem d5_10 : decode prog_48_method_11_code 10 = .ok (.iload_n 2, 1) := by decide +kernel
theorem d5_11 : decode prog_48_method_11_code 11 = .ok (.aload_n 0, 1) := by decide +kernel
theorem d5_12 : decode prog_48_method_11_code 12 = .ok (.getfield 19, 3) := by decide +kernel
theorem d5_15 : decode prog_48_method_11_code 15 = .ok (.if_icmp .ge 99, 3) := by decide +kernel
theorem d5_18 : decode prog_48_method_11_code 18 = .ok (.aload_n 0, 1) := by decide +kernel
theorem d5_19 : decode prog_48_method_11_code 19 = .ok (.getfield 15, 3) := by decide +kernel
theorem d5_22 : decode prog_48_method_11_code 22 = .ok (.iload_n 2, 1) := by decide +kernel
theorem d5_23 : decode prog_48_method_11_code 23 = .ok (.iaload, 1) := by decide +kernel
theorem d5_24 : decode prog_48_method_11_code 24 = .ok (.iconst (-1), 1) := by decide +kernel
theorem d5_25 : decode prog_48_method_11_code 25 = .ok (.if_icmp .eq 89, 3) := by decide +kernel
theorem d5_114 : decode prog_48_method_11_code 114 = .ok (.aload_n 1, 1) := by decide +kernel
theorem d5_115 : decode prog_48_method_11_code 115 = .ok (.invokevirtual 65, 3) := by decide +kernel
theorem pd22 : parseMethodDescriptor "()Ljava/lang/String;" = some ⟨[], some (.object oS)⟩ := by decide +kernel
theorem d5_118 : decode prog_48_method_11_code 118 = .ok (.areturn, 1) := by decide +kernel
theorem ef5_0 (m : MethodId) (r : Addr) : entryFrame m #[(.ref r)] 3 = mkF m 0 #[.val (.ref r), .unset, .unset] [] := by first | (simp [entryFrame, mkF, argsToLocals, Value.category]; done) | rfl
def Q5_0 (Z : State) (r : Addr) (ka : Addr) (ia : Addr) (kk : ClassId) (ki : ClassId) (x1 : Int32) (cs : Int32) (da : Addr) (cd : Cell) (h0 : Heap) (n0 : Nat) (v : Option Value) (h : Heap) (L : List Loc) : Prop := ∃ (sa : Addr) (vb : Addr) (kb : ClassId), v = some (.ref sa) ∧ Fr n0 L ∧ Keep h0 h [] ∧ n0 ≤ sa ∧ h0.size ≤ sa ∧ n0 ≤ vb ∧ h0.size ≤ vb ∧ Exa Z h sa oS ∧ Fld Z h sa oS "coder" "B" (.int 0) ∧ Fld Z h sa oS "value" "[B" (.ref vb) ∧ Arv Z h vb kb .byte (0 : Int32) [] (.int 0)
theorem rm5_0 (l : Launch) (Z : State) (a0 : Array Value) (hw : ∀ d ∈ tables_1, d.before a0 Z = true) (ws : List Jvm.Cond) (r : Addr) (ka : Addr) (ia : Addr) (kk : ClassId) (ki : ClassId) (x1 : Int32) (cs : Int32) (da : Addr) (cd : Cell) (h0 : Heap) (n0 : Nat) (Z0 : n0 ≤ h0.size) (F0 : Exa Z h0 r oJ) (F1 : Fld Z h0 r oJ "keys" "[Ljava/lang/String;" (.ref ka)) (F2 : Fld Z h0 r oJ "indexes" "[I" (.ref ia)) (F3 : Fld Z h0 r oJ "depth" "I" (.int 2)) (F4 : Arv Z h0 ka kk (.object oS) (16 : Int32) [] .null) (F5 : Arv Z h0 ia ki .int (16 : Int32) [(.int (-1)), (.int x1)] (.int 0)) (Cs : Sta Z Z.heap oS "COMPACT_STRINGS" "Z" (.int cs)) (hcs : ¬ (cs = (0 : Int32))) (Ox : Old Z n0 h0) (Dd : Sta Z Z.heap oI "DigitOnes" "[B" (.ref da)) (Da : Arr Z Z.heap da cd .byte) (hds : cd.slots.size = 100) :
    MetFree l oM28 (head1 (Jvm.Cond.code oM28 prog_48_method_11_code 3 (some (.object oS)) :: ws) oR25) (fun a U => a = #[(.ref r)] ∧ Z.Warmed39 U.vm ∧ U.heap = h0) (fun _ _ _ _ _ => True) (fun _ U o U' => ∃ v L, o = .returned v ∧ Q5_0 Z r ka ia kk ki x1 cs da cd h0 n0 v U'.heap L ∧ FrameEnd U o U' L oR25.cells oR25.slots) := by
  refine MetFree.of_bodySF (plainFor_of_name pn0) hisR ?_
  intro p e s m args below meth c s₁ Bd hml0 hP hK
  obtain ⟨rfl, hZ, hh⟩ := hP
  have hx := Bd.exec
  have hby := Bd.bytes
  have hml : c.maxLocals = 3 := hml0
  have hown : s.vm.findClass oJ = some m.cls := findClass_of_methodNamed Bd.named
  have hnm := (name_of_methodNamed Bd.named Bd.method).1
  have X0 : Stand p l e oR25 s m #[(.ref r)] below meth c s₁ [] 0 0 := Stand.of_body Bd
  have e0 : s₁.heap = h0 := by rw [← hh, Bd.state]; rfl
  have N0 := Fr.nil n0
  have pre0 : ∀ tZ, Steps p.tables e below (s₁.setTop (mkF m 0 #[.val (.ref r), .unset, .unset] [])) tZ → Steps p.tables e below (s₁.setTop (entryFrame m #[(.ref r)] 3)) tZ := fun tZ kZ => castTop (ef5_0 m r) kZ
  obtain ⟨T1, h1, X1, e1, E1, A1, D1, -, st1⟩ := newO X0 hx hZ hown (ow hw 41 rfl) (ow hw 42 rfl) (ow hw 43 rfl) e0 (g := (mkF m 0 #[.val (.ref r), .unset, .unset] [])) rfl (hb hby d5_0) (by decide) (by decide)
  obtain ⟨b1, g1⟩ : ∃ z, z = h0.size := ⟨_, rfl⟩
  rw [← g1] at A1 D1 st1
  have ne2 : r ≠ b1 := Nat.ne_of_lt (Nat.lt_of_lt_of_le F0.lt (Nat.le_of_eq g1.symm))
  have ne3 : ka ≠ b1 := Nat.ne_of_lt (Nat.lt_of_lt_of_le F4.lt (Nat.le_of_eq g1.symm))
  have ne4 : ia ≠ b1 := Nat.ne_of_lt (Nat.lt_of_lt_of_le F5.lt (Nat.le_of_eq g1.symm))
  have gn_b1 : n0 ≤ b1 := Nat.le_trans Z0 (Nat.le_of_eq g1.symm)
  have sz_b1 : h0.size ≤ b1 := Nat.le_trans (Keep.refl h0 []).1 (Nat.le_of_eq g1.symm)
  have Z5 : n0 ≤ h1.size := Nat.le_trans Z0 E1.1
  have K6 : Keep h0 h1 [] := (Keep.refl h0 []).ext E1
  have F_value_b1 : Fld Z h1 b1 oA "value" "[B" .null := D1 (Or.inl (ow hw 56 rfl)) (ty := (.array .byte)) (by decide)
  have F_coder_b1 : Fld Z h1 b1 oA "coder" "B" (.int 0) := D1 (Or.inl (ow hw 58 rfl)) (ty := .byte) (by decide)
  have F_count_b1 : Fld Z h1 b1 oA "count" "I" (.int 0) := D1 (Or.inl (ow hw 88 rfl)) (ty := .int) (by decide)
  have fa7 := (Ox.ext E1)
  obtain ⟨_, _, ⟨T8, L8, k8, n8⟩, -, X8, ⟨Lc8, hQ8, l8, y8, z8⟩, st8⟩ := X1.specialBack hx (y := oM8) rfl hown (mvT hZ (ow hw 44 rfl)) (mvT hZ (ow hw 45 rfl)) (mvT hZ (ow hw 46 rfl)) (by decide) (backOf (W := 1) (rm6 l Z a0 hw [] b1 .null (.int 0) cs h1 n0 Z5 A1 F_value_b1 F_coder_b1 F_count_b1 gn_b1 Cs (by first | assumption | decide | omega) fa7) hZ (ow hw 46 rfl) (ow hw 43 rfl) (by decide) (by decide)) (g := (mkF m 4 #[.val (.ref r), .unset, .unset] [(.ref b1), (.ref b1)])) rfl (by rw [hml]; rfl) (Steps.refl _) (a := b1) (argsL := []) (rest := [(.ref b1)]) (lenOf pd21 rfl) rfl (Nat.le_of_eq rfl) (hb hby d5_4) (fun _ _ => ⟨rfl, e1, (by decide : 1 + 1 ≤ _), (by decide : 4 + 16 ≤ _)⟩)
  dsimp only [Pt.U, Pt.locs, Pt.cells, Pt.slots] at X8 l8 y8 z8 st8 hQ8
  subst l8 y8 z8
  obtain ⟨va_9, kv_10, rfl, N8q, K8, u8_0, u8_1, f8_0, f8_1, f8_2, f8_3, f8_4⟩ := hQ8
  have N8 := Fr.app N0 N8q
  have Z11 : n0 ≤ T8.heap.size := Nat.le_trans Z5 K8.1
  have K12 : Keep h0 T8.heap [] := K6.trans K8 (allS (P := fun x => x ∈ _ ∨ _) (Or.inr sz_b1) all0)
  have ne13 : r ≠ va_9 := Nat.ne_of_lt (Nat.lt_of_lt_of_le (F0.ext E1).lt u8_1)
  have ne14 : ka ≠ va_9 := Nat.ne_of_lt (Nat.lt_of_lt_of_le (F4.ext E1).lt u8_1)
  have ne15 : ia ≠ va_9 := Nat.ne_of_lt (Nat.lt_of_lt_of_le (F5.ext E1).lt u8_1)
  have ne16 : b1 ≠ va_9 := Nat.ne_of_lt (Nat.lt_of_lt_of_le A1.lt u8_1)
  have sz_va_9 : h0.size ≤ va_9 := Nat.le_trans K6.1 u8_1
  have fa17 := ((F3.ext E1).keep K8 (ninS ne2 nin0))
  obtain ⟨T18, X18, e18, st18⟩ := getF X8 hx hZ hown (host := "") (Or.inl (ow hw 34 rfl)) Via.refl rfl fa17 (g := (mkF m 12 #[.val (.ref r), .val (.ref b1), .val (.int 0)] [(.ref r), (.int 0)])) rfl rfl (hb hby d5_12)
  have fa19 := ((F2.ext E1).keep K8 (ninS ne2 nin0))
  obtain ⟨T20, X20, e20, st20⟩ := getF X18 hx hZ hown (host := "") (Or.inl (ow hw 23 rfl)) Via.refl e18 fa19 (g := (mkF m 19 #[.val (.ref r), .val (.ref b1), .val (.int 0)] [(.ref r)])) rfl rfl (hb hby d5_19)
  have fa21 := ((F5.ext E1).keep K8 (ninS ne4 nin0))
  obtain ⟨c22, Arc22, qc22, Sc22, Mc22, Hc22, Gc22⟩ := id fa21
  have hinc22 : ¬ ((0 : Int32) < 0 ∨ c22.slots.size ≤ ((0 : Int32)).toNatClampNeg) := inb_of Sc22 ⟨by decide, by decide⟩
  have hatc22 : c22.slots[((0 : Int32)).toNatClampNeg]? = some (.int (-1)) := Hc22.at hinc22 rfl
  have fa23 := (fa7.keep K8 (allS (P := fun x => n0 ≤ x) gn_b1 all0))
  obtain ⟨cq24, kq24, q24a, q24b, q24c⟩ := isOf hZ e20 f8_0
  obtain ⟨_, _, ⟨T24, L24, k24, n24⟩, -, X24, ⟨Lc24, hQ24, l24, y24, z24⟩, st24⟩ := X20.virtualBack hx (y := oM27) (z := oM27) hown (mvT hZ (ow hw 59 rfl)) (mvT hZ (ow hw 60 rfl)) (notFace_of_selects (args := #[]) (mvT hZ (ow hw 62 rfl))) (mvT hZ (ow hw 62 rfl)) (mvT hZ (ow hw 61 rfl)) (by decide) (backOf (W := 0) (rm8n0 l Z a0 hw [] b1 va_9 kv_10 (0 : Int32) (0 : Int32) (0 : Int32) (0 : Int32) cs T8.heap n0 Z11 f8_0 f8_1 f8_2 f8_3 f8_4 Cs (by first | assumption | decide | omega) fa23) hZ (ow hw 63 rfl) (ow hw 43 rfl) (by decide) (by decide)) q24a q24c (g := (mkF m 115 #[.val (.ref r), .val (.ref b1), .val (.int 0)] [(.ref b1)])) rfl (by rw [hml]; rfl) (Steps.refl _) (argsL := []) (rest := []) (lenOf pd22 rfl) rfl (Nat.le_of_eq rfl) (hb hby d5_115) (fun _ _ => ⟨rfl, e20, (by decide : 2 + 2 ≤ _), (by decide : 20 + 4 ≤ _)⟩)
  dsimp only [Pt.U, Pt.locs, Pt.cells, Pt.slots] at X24 l24 y24 z24 st24 hQ24
  subst l24 y24 z24
  obtain ⟨sa_25, vb_26, kb_27, rfl, N24q, K24, u24_0, u24_1, u24_2, u24_3, f24_0, f24_1, f24_2, f24_3⟩ := hQ24
  have N24 := Fr.app N8 N24q
  have Z28 : n0 ≤ T24.heap.size := Nat.le_trans Z11 K24.1
  have K29 : Keep h0 T24.heap [] := K12.trans K24 all0
  have ne30 : r ≠ sa_25 := Nat.ne_of_lt (Nat.lt_of_lt_of_le ((F0.ext E1).keep K8).lt u24_1)
  have ne31 : ka ≠ sa_25 := Nat.ne_of_lt (Nat.lt_of_lt_of_le ((F4.ext E1).keep K8 (ninS ne3 nin0)).lt u24_1)
  have ne32 : ia ≠ sa_25 := Nat.ne_of_lt (Nat.lt_of_lt_of_le fa21.lt u24_1)
  have ne33 : b1 ≠ sa_25 := Nat.ne_of_lt (Nat.lt_of_lt_of_le f8_0.lt u24_1)
  have ne34 : va_9 ≠ sa_25 := Nat.ne_of_lt (Nat.lt_of_lt_of_le f8_4.lt u24_1)
  have sz_sa_25 : h0.size ≤ sa_25 := Nat.le_trans K12.1 u24_1
  have ne35 : r ≠ vb_26 := Nat.ne_of_lt (Nat.lt_of_lt_of_le ((F0.ext E1).keep K8).lt u24_3)
  have ne36 : ka ≠ vb_26 := Nat.ne_of_lt (Nat.lt_of_lt_of_le ((F4.ext E1).keep K8 (ninS ne3 nin0)).lt u24_3)
  have ne37 : ia ≠ vb_26 := Nat.ne_of_lt (Nat.lt_of_lt_of_le fa21.lt u24_3)
  have ne38 : b1 ≠ vb_26 := Nat.ne_of_lt (Nat.lt_of_lt_of_le f8_0.lt u24_3)
  have ne39 : va_9 ≠ vb_26 := Nat.ne_of_lt (Nat.lt_of_lt_of_le f8_4.lt u24_3)
  have sz_vb_26 : h0.size ≤ vb_26 := Nat.le_trans K12.1 u24_3
  obtain ⟨fsZ, hrZ, hrun, hended, hW, hsame⟩ := X24.leave (v := some (.ref sa_25)) (fun h => by rw [Bd.returns] at h; cases h)
  refine ⟨_, _, pre0 _ ?_, hrun, hended, _, _, rfl, ?_, ⟨_, rfl⟩, hW, hsame.mono (by decide) (by decide)⟩
  · show Steps _ _ _ (s₁.setTop (mkF m 0 #[.val (.ref r), .unset, .unset] [])) _
    refine st1 _ ?_
    refine XS.dup X1.here hx rfl (hb hby d5_3) rfl rfl ?_
    show Steps _ _ _ (T1.setTop (mkF m 4 #[.val (.ref r), .unset, .unset] [(.ref b1), (.ref b1)])) _
    refine st8.trans ?_
    refine XS.astoreN X8.here hx rfl (hb hby d5_7) rfl rfl (l' := #[.val (.ref r), .val (.ref b1), .unset]) rfl ?_
    refine XS.iconst X8.here hx rfl (hb hby d5_8) ?_
    refine XS.istoreN X8.here hx rfl (hb hby d5_9) rfl (l' := #[.val (.ref r), .val (.ref b1), .val (.int 0)]) rfl ?_
    refine XS.iloadN X8.here hx rfl (hb hby d5_10) rfl  ?_
    refine XS.aloadN X8.here hx rfl (hb hby d5_11) rfl rfl ?_
    show Steps _ _ _ (T8.setTop (mkF m 12 #[.val (.ref r), .val (.ref b1), .val (.int 0)] [(.ref r), (.int 0)])) _
    refine st18 _ ?_
    refine XS.icmpNo X18.here hx rfl (hb hby d5_15) rfl (tlt (by decide)).2.1 ?_
    refine XS.aloadN X18.here hx rfl (hb hby d5_18) rfl rfl ?_
    show Steps _ _ _ (T18.setTop (mkF m 19 #[.val (.ref r), .val (.ref b1), .val (.int 0)] [(.ref r)])) _
    refine st20 _ ?_
    refine XS.iloadN X20.here hx rfl (hb hby d5_22) rfl  ?_
    show Steps _ _ _ (T20.setTop (mkF m 23 #[.val (.ref r), .val (.ref b1), .val (.int 0)] [(.int 0), (.ref ia)])) _
    refine X20.iaload hx (j := (0 : Int32)) (v := (.int (-1))) (by rw [e20]; exact Arc22.1) (State.isArrayOf_alike hZ.alike Arc22.2.1) Arc22.2.2 hinc22 hatc22 (g := (mkF m 23 #[.val (.ref r), .val (.ref b1), .val (.int 0)] [(.int 0), (.ref ia)])) rfl rfl (hb hby d5_23) _ ?_
    refine XS.iconst X20.here hx rfl (hb hby d5_24) ?_
    refine XS.icmpYes X20.here hx rfl (pc0 := 25) (pc' := 114) rfl (hb hby d5_25) rfl (teq (by decide)).1 (by decide) (by decide) ?_
    refine XS.aloadN X20.here hx rfl (hb hby d5_114) rfl rfl ?_
    show Steps _ _ _ (T20.setTop (mkF m 115 #[.val (.ref r), .val (.ref b1), .val (.int 0)] [(.ref b1)])) _
    refine st24.trans ?_
    show Steps _ _ _ (T24.setTop (mkF m 118 #[.val (.ref r), .val (.ref b1), .val (.int 0)] [(.ref sa_25)])) _
    jvm_step X24.here [X24.here.top, hx, (hb hby d5_118), X24.method', Bd.returns, Value.isRef, FieldType.isReference]
    first | (intro acts; rw [hrZ _ acts rfl rfl rfl]) | rw [hrZ _ _ rfl rfl rfl]
    exact Steps.refl _
  · show Q5_0 Z r ka ia kk ki x1 cs da cd h0 n0 _ T24.heap _
    exact ⟨sa_25, vb_26, kb_27, rfl, N24, K29, u24_0, sz_sa_25, u24_2, sz_vb_26, f24_0, f24_1, f24_2, f24_3⟩
theorem d5_28 : decode prog_48_method_11_code 28 = .ok (.aload_n 0, 1) := by decide +kernel
theorem d5_29 : decode prog_48_method_11_code 29 = .ok (.getfield 15, 3) := by decide +kernel
theorem d5_32 : decode prog_48_method_11_code 32 = .ok (.iload_n 2, 1) := by decide +kernel
theorem d5_33 : decode prog_48_method_11_code 33 = .ok (.iaload, 1) := by decide +kernel
theorem d5_34 : decode prog_48_method_11_code 34 = .ok (.bipush (-2), 2) := by decide +kernel
theorem d5_36 : decode prog_48_method_11_code 36 = .ok (.if_icmp .ne 15, 3) := by decide +kernel
theorem d5_51 : decode prog_48_method_11_code 51 = .ok (.aload_n 1, 1) := by decide +kernel
theorem d5_52 : decode prog_48_method_11_code 52 = .ok (.bipush 47, 2) := by decide +kernel
theorem d5_54 : decode prog_48_method_11_code 54 = .ok (.invokevirtual 43, 3) := by decide +kernel
theorem pd23 : parseMethodDescriptor "(C)Ljava/lang/StringBuilder;" = some ⟨[.char], some (.object oB)⟩ := by decide +kernel
theorem d5_57 : decode prog_48_method_11_code 57 = .ok (.pop, 1) := by decide +kernel
theorem d5_58 : decode prog_48_method_11_code 58 = .ok (.aload_n 0, 1) := by decide +kernel
theorem d5_59 : decode prog_48_method_11_code 59 = .ok (.getfield 15, 3) := by decide +kernel
theorem d5_62 : decode prog_48_method_11_code 62 = .ok (.iload_n 2, 1) := by decide +kernel
theorem d5_63 : decode prog_48_method_11_code 63 = .ok (.iaload, 1) := by decide +kernel
theorem d5_64 : decode prog_48_method_11_code 64 = .ok (.bipush (-2), 2) := by decide +kernel
theorem d5_66 : decode prog_48_method_11_code 66 = .ok (.if_icmp .eq 17, 3) := by decide +kernel
theorem d5_69 : decode prog_48_method_11_code 69 = .ok (.aload_n 1, 1) := by decide +kernel
theorem d5_70 : decode prog_48_method_11_code 70 = .ok (.aload_n 0, 1) := by decide +kernel
theorem d5_71 : decode prog_48_method_11_code 71 = .ok (.getfield 15, 3) := by decide +kernel
theorem d5_74 : decode prog_48_method_11_code 74 = .ok (.iload_n 2, 1) := by decide +kernel
theorem d5_75 : decode prog_48_method_11_code 75 = .ok (.iaload, 1) := by decide +kernel
theorem d5_76 : decode prog_48_method_11_code 76 = .ok (.invokevirtual 47, 3) := by decide +kernel
theorem pd24 : parseMethodDescriptor "(I)Ljava/lang/StringBuilder;" = some ⟨[.int], some (.object oB)⟩ := by decide +kernel
theorem d5_79 : decode prog_48_method_11_code 79 = .ok (.pop, 1) := by decide +kernel
theorem d5_80 : decode prog_48_method_11_code 80 = .ok (.goto 28, 3) := by decide +kernel
theorem d5_108 : decode prog_48_method_11_code 108 = .ok (.iinc 2 1, 3) := by decide +kernel
theorem d5_111 : decode prog_48_method_11_code 111 = .ok (.goto (-101), 3) := by decide +kernel
theorem ef5_1 (m : MethodId) (r : Addr) : entryFrame m #[(.ref r)] 3 = mkF m 0 #[.val (.ref r), .unset, .unset] [] := by first | (simp [entryFrame, mkF, argsToLocals, Value.category]; done) | rfl
def Q5_1 (Z : State) (r : Addr) (ka : Addr) (ia : Addr) (kk : ClassId) (ki : ClassId) (cs : Int32) (da : Addr) (cd : Cell) (d0 : Int32) (bz0 : Int32) (h0 : Heap) (n0 : Nat) (v : Option Value) (h : Heap) (L : List Loc) : Prop := ∃ (sa : Addr) (vb : Addr) (kb : ClassId), v = some (.ref sa) ∧ Fr n0 L ∧ Keep h0 h [] ∧ n0 ≤ sa ∧ h0.size ≤ sa ∧ n0 ≤ vb ∧ h0.size ≤ vb ∧ Exa Z h sa oS ∧ Fld Z h sa oS "coder" "B" (.int 0) ∧ Fld Z h sa oS "value" "[B" (.ref vb) ∧ Arv Z h vb kb .byte (2 : Int32) [(.int 47), (.int bz0)] (.int 0)
theorem rm5_1 (l : Launch) (Z : State) (a0 : Array Value) (hw : ∀ d ∈ tables_1, d.before a0 Z = true) (ws : List Jvm.Cond) (r : Addr) (ka : Addr) (ia : Addr) (kk : ClassId) (ki : ClassId) (cs : Int32) (da : Addr) (cd : Cell) (d0 : Int32) (bz0 : Int32) (h0 : Heap) (n0 : Nat) (Z0 : n0 ≤ h0.size) (F0 : Exa Z h0 r oJ) (F1 : Fld Z h0 r oJ "keys" "[Ljava/lang/String;" (.ref ka)) (F2 : Fld Z h0 r oJ "indexes" "[I" (.ref ia)) (F3 : Fld Z h0 r oJ "depth" "I" (.int 2)) (F4 : Arv Z h0 ka kk (.object oS) (16 : Int32) [] .null) (F5 : Arv Z h0 ia ki .int (16 : Int32) [(.int d0), (.int (-1))] (.int 0)) (Cs : Sta Z Z.heap oS "COMPACT_STRINGS" "Z" (.int cs)) (hcs : ¬ (cs = (0 : Int32))) (Ox : Old Z n0 h0) (Dd : Sta Z Z.heap oI "DigitOnes" "[B" (.ref da)) (Da : Arr Z Z.heap da cd .byte) (hds : cd.slots.size = 100) (hdd0 : d0 = (0 : Int32) ∨ d0 = (1 : Int32)) (hdx0 : cd.slots[d0.toNatClampNeg]? = some (.int bz0)) (hbn0 : (bz0.toInt8.toInt32) = bz0) :
    MetFree l oM28 (head1 (Jvm.Cond.code oM28 prog_48_method_11_code 3 (some (.object oS)) :: ws) oR26) (fun a U => a = #[(.ref r)] ∧ Z.Warmed39 U.vm ∧ U.heap = h0) (fun _ _ _ _ _ => True) (fun _ U o U' => ∃ v L, o = .returned v ∧ Q5_1 Z r ka ia kk ki cs da cd d0 bz0 h0 n0 v U'.heap L ∧ FrameEnd U o U' L oR26.cells oR26.slots) := by
  refine MetFree.of_bodySF (plainFor_of_name pn0) hisR ?_
  intro p e s m args below meth c s₁ Bd hml0 hP hK
  obtain ⟨rfl, hZ, hh⟩ := hP
  have hx := Bd.exec
  have hby := Bd.bytes
  have hml : c.maxLocals = 3 := hml0
  have hown : s.vm.findClass oJ = some m.cls := findClass_of_methodNamed Bd.named
  have hnm := (name_of_methodNamed Bd.named Bd.method).1
  have X0 : Stand p l e oR26 s m #[(.ref r)] below meth c s₁ [] 0 0 := Stand.of_body Bd
  have e0 : s₁.heap = h0 := by rw [← hh, Bd.state]; rfl
  have N0 := Fr.nil n0
  have pre0 : ∀ tZ, Steps p.tables e below (s₁.setTop (mkF m 0 #[.val (.ref r), .unset, .unset] [])) tZ → Steps p.tables e below (s₁.setTop (entryFrame m #[(.ref r)] 3)) tZ := fun tZ kZ => castTop (ef5_1 m r) kZ
  obtain ⟨T1, h1, X1, e1, E1, A1, D1, -, st1⟩ := newO X0 hx hZ hown (ow hw 41 rfl) (ow hw 42 rfl) (ow hw 43 rfl) e0 (g := (mkF m 0 #[.val (.ref r), .unset, .unset] [])) rfl (hb hby d5_0) (by decide) (by decide)
  obtain ⟨b1, g1⟩ : ∃ z, z = h0.size := ⟨_, rfl⟩
  rw [← g1] at A1 D1 st1
  have ne2 : r ≠ b1 := Nat.ne_of_lt (Nat.lt_of_lt_of_le F0.lt (Nat.le_of_eq g1.symm))
  have ne3 : ka ≠ b1 := Nat.ne_of_lt (Nat.lt_of_lt_of_le F4.lt (Nat.le_of_eq g1.symm))
  have ne4 : ia ≠ b1 := Nat.ne_of_lt (Nat.lt_of_lt_of_le F5.lt (Nat.le_of_eq g1.symm))
  have gn_b1 : n0 ≤ b1 := Nat.le_trans Z0 (Nat.le_of_eq g1.symm)
  have sz_b1 : h0.size ≤ b1 := Nat.le_trans (Keep.refl h0 []).1 (Nat.le_of_eq g1.symm)
  have Z5 : n0 ≤ h1.size := Nat.le_trans Z0 E1.1
  have K6 : Keep h0 h1 [] := (Keep.refl h0 []).ext E1
  have F_value_b1 : Fld Z h1 b1 oA "value" "[B" .null := D1 (Or.inl (ow hw 56 rfl)) (ty := (.array .byte)) (by decide)
  have F_coder_b1 : Fld Z h1 b1 oA "coder" "B" (.int 0) := D1 (Or.inl (ow hw 58 rfl)) (ty := .byte) (by decide)
  have F_count_b1 : Fld Z h1 b1 oA "count" "I" (.int 0) := D1 (Or.inl (ow hw 88 rfl)) (ty := .int) (by decide)
  have fa7 := (Ox.ext E1)
  obtain ⟨_, _, ⟨T8, L8, k8, n8⟩, -, X8, ⟨Lc8, hQ8, l8, y8, z8⟩, st8⟩ := X1.specialBack hx (y := oM8) rfl hown (mvT hZ (ow hw 44 rfl)) (mvT hZ (ow hw 45 rfl)) (mvT hZ (ow hw 46 rfl)) (by decide) (backOf (W := 1) (rm6 l Z a0 hw [] b1 .null (.int 0) cs h1 n0 Z5 A1 F_value_b1 F_coder_b1 F_count_b1 gn_b1 Cs (by first | assumption | decide | omega) fa7) hZ (ow hw 46 rfl) (ow hw 43 rfl) (by decide) (by decide)) (g := (mkF m 4 #[.val (.ref r), .unset, .unset] [(.ref b1), (.ref b1)])) rfl (by rw [hml]; rfl) (Steps.refl _) (a := b1) (argsL := []) (rest := [(.ref b1)]) (lenOf pd21 rfl) rfl (Nat.le_of_eq rfl) (hb hby d5_4) (fun _ _ => ⟨rfl, e1, (by decide : 1 + 1 ≤ _), (by decide : 4 + 16 ≤ _)⟩)
  dsimp only [Pt.U, Pt.locs, Pt.cells, Pt.slots] at X8 l8 y8 z8 st8 hQ8
  subst l8 y8 z8
  obtain ⟨va_9, kv_10, rfl, N8q, K8, u8_0, u8_1, f8_0, f8_1, f8_2, f8_3, f8_4⟩ := hQ8
  have N8 := Fr.app N0 N8q
  have Z11 : n0 ≤ T8.heap.size := Nat.le_trans Z5 K8.1
  have K12 : Keep h0 T8.heap [] := K6.trans K8 (allS (P := fun x => x ∈ _ ∨ _) (Or.inr sz_b1) all0)
  have ne13 : r ≠ va_9 := Nat.ne_of_lt (Nat.lt_of_lt_of_le (F0.ext E1).lt u8_1)
  have ne14 : ka ≠ va_9 := Nat.ne_of_lt (Nat.lt_of_lt_of_le (F4.ext E1).lt u8_1)
  have ne15 : ia ≠ va_9 := Nat.ne_of_lt (Nat.lt_of_lt_of_le (F5.ext E1).lt u8_1)
  have ne16 : b1 ≠ va_9 := Nat.ne_of_lt (Nat.lt_of_lt_of_le A1.lt u8_1)
  have sz_va_9 : h0.size ≤ va_9 := Nat.le_trans K6.1 u8_1
  have fa17 := ((F3.ext E1).keep K8 (ninS ne2 nin0))
  obtain ⟨T18, X18, e18, st18⟩ := getF X8 hx hZ hown (host := "") (Or.inl (ow hw 34 rfl)) Via.refl rfl fa17 (g := (mkF m 12 #[.val (.ref r), .val (.ref b1), .val (.int 0)] [(.ref r), (.int 0)])) rfl rfl (hb hby d5_12)
  have fa19 := ((F2.ext E1).keep K8 (ninS ne2 nin0))
  obtain ⟨T20, X20, e20, st20⟩ := getF X18 hx hZ hown (host := "") (Or.inl (ow hw 23 rfl)) Via.refl e18 fa19 (g := (mkF m 19 #[.val (.ref r), .val (.ref b1), .val (.int 0)] [(.ref r)])) rfl rfl (hb hby d5_19)
  have fa21 := ((F5.ext E1).keep K8 (ninS ne4 nin0))
  obtain ⟨c22, Arc22, qc22, Sc22, Mc22, Hc22, Gc22⟩ := id fa21
  have hinc22 : ¬ ((0 : Int32) < 0 ∨ c22.slots.size ≤ ((0 : Int32)).toNatClampNeg) := inb_of Sc22 ⟨by decide, by decide⟩
  have hatc22 : c22.slots[((0 : Int32)).toNatClampNeg]? = some (.int d0) := Hc22.at hinc22 rfl
  obtain ⟨T23, X23, e23, st23⟩ := getF X20 hx hZ hown (host := "") (Or.inl (ow hw 23 rfl)) Via.refl e20 fa19 (g := (mkF m 29 #[.val (.ref r), .val (.ref b1), .val (.int 0)] [(.ref r)])) rfl rfl (hb hby d5_29)
  obtain ⟨c24, Arc24, qc24, Sc24, Mc24, Hc24, Gc24⟩ := id fa21
  have hinc24 : ¬ ((0 : Int32) < 0 ∨ c24.slots.size ≤ ((0 : Int32)).toNatClampNeg) := inb_of Sc24 ⟨by decide, by decide⟩
  have hatc24 : c24.slots[((0 : Int32)).toNatClampNeg]? = some (.int d0) := Hc24.at hinc24 rfl
  have fa25 := (fa7.keep K8 (allS (P := fun x => n0 ≤ x) gn_b1 all0))
  obtain ⟨cq26, kq26, q26a, q26b, q26c⟩ := isOf hZ e23 f8_0
  obtain ⟨_, _, ⟨T26, L26, k26, n26⟩, -, X26, ⟨Lc26, hQ26, l26, y26, z26⟩, st26⟩ := X23.virtualBack hx (y := oM13) (z := oM13) hown (mvT hZ (ow hw 163 rfl)) (mvT hZ (ow hw 164 rfl)) (notFace_of_selects (args := #[]) (mvT hZ (ow hw 166 rfl))) (mvT hZ (ow hw 166 rfl)) (mvT hZ (ow hw 165 rfl)) (by decide) (backOf (W := 0) (rm30c0 l Z a0 hw [] b1 va_9 kv_10 (0 : Int32) (0 : Int32) (0 : Int32) (0 : Int32) cs T8.heap n0 Z11 f8_0 f8_1 f8_2 f8_3 f8_4 gn_b1 u8_0 ne16 Cs (by first | assumption | decide | omega) fa25) hZ (ow hw 167 rfl) (ow hw 43 rfl) (by decide) (by decide)) q26a q26c (g := (mkF m 54 #[.val (.ref r), .val (.ref b1), .val (.int 0)] [(.int 47), (.ref b1)])) rfl (by rw [hml]; rfl) (Steps.refl _) (argsL := [(.int 47)]) (rest := []) (lenOf pd23 rfl) rfl (Nat.le_of_eq rfl) (hb hby d5_54) (fun _ _ => ⟨rfl, e23, (by decide : 2 + 0 ≤ _), (by decide : 20 + 0 ≤ _)⟩)
  dsimp only [Pt.U, Pt.locs, Pt.cells, Pt.slots] at X26 l26 y26 z26 st26 hQ26
  subst l26 y26 z26
  obtain ⟨rfl, N26q, K26, f26_0, f26_1, f26_2, f26_3, f26_4⟩ := hQ26
  have N26 := Fr.app N8 N26q
  have Z27 : n0 ≤ T26.heap.size := Nat.le_trans Z11 K26.1
  have K28 : Keep h0 T26.heap [] := K12.trans K26 (allS (P := fun x => x ∈ _ ∨ _) (Or.inr sz_b1) (allS (P := fun x => x ∈ _ ∨ _) (Or.inr sz_va_9) all0))
  have fa29 := (fa19.keep K26 (ninS ne2 (ninS ne13 nin0)))
  obtain ⟨T30, X30, e30, st30⟩ := getF X26 hx hZ hown (host := "") (Or.inl (ow hw 23 rfl)) Via.refl rfl fa29 (g := (mkF m 59 #[.val (.ref r), .val (.ref b1), .val (.int 0)] [(.ref r)])) rfl rfl (hb hby d5_59)
  have fa31 := (fa21.keep K26 (ninS ne4 (ninS ne15 nin0)))
  obtain ⟨c32, Arc32, qc32, Sc32, Mc32, Hc32, Gc32⟩ := id fa31
  have hinc32 : ¬ ((0 : Int32) < 0 ∨ c32.slots.size ≤ ((0 : Int32)).toNatClampNeg) := inb_of Sc32 ⟨by decide, by decide⟩
  have hatc32 : c32.slots[((0 : Int32)).toNatClampNeg]? = some (.int d0) := Hc32.at hinc32 rfl
  obtain ⟨T33, X33, e33, st33⟩ := getF X30 hx hZ hown (host := "") (Or.inl (ow hw 23 rfl)) Via.refl e30 fa29 (g := (mkF m 71 #[.val (.ref r), .val (.ref b1), .val (.int 0)] [(.ref r), (.ref b1)])) rfl rfl (hb hby d5_71)
  obtain ⟨c34, Arc34, qc34, Sc34, Mc34, Hc34, Gc34⟩ := id fa31
  have hinc34 : ¬ ((0 : Int32) < 0 ∨ c34.slots.size ≤ ((0 : Int32)).toNatClampNeg) := inb_of Sc34 ⟨by decide, by decide⟩
  have hatc34 : c34.slots[((0 : Int32)).toNatClampNeg]? = some (.int d0) := Hc34.at hinc34 rfl
  have fa35 := (fa25.keep K26 (allS (P := fun x => n0 ≤ x) gn_b1 (allS (P := fun x => n0 ≤ x) u8_0 all0)))
  obtain ⟨cq36, kq36, q36a, q36b, q36c⟩ := isOf hZ e33 f26_0
  obtain ⟨_, _, ⟨T36, L36, k36, n36⟩, -, X36, ⟨Lc36, hQ36, l36, y36, z36⟩, st36⟩ := X33.virtualBack hx (y := oM17) (z := oM17) hown (mvT hZ (ow hw 181 rfl)) (mvT hZ (ow hw 182 rfl)) (notFace_of_selects (args := #[]) (mvT hZ (ow hw 184 rfl))) (mvT hZ (ow hw 184 rfl)) (mvT hZ (ow hw 183 rfl)) (by decide) (backOf (W := 0) (rm34c1 l Z a0 hw [] b1 d0 va_9 kv_10 (47 : Int32) (0 : Int32) (0 : Int32) (0 : Int32) cs da cd bz0 T26.heap n0 Z27 f26_0 f26_1 f26_2 f26_3 f26_4 gn_b1 u8_0 ne16 Cs (by first | assumption | decide | omega) fa35 Dd Da (by first | assumption | decide | omega) (by first | assumption | decide | omega) (by first | assumption | decide | omega) (by first | assumption | decide | omega)) hZ (ow hw 185 rfl) (ow hw 43 rfl) (by decide) (by decide)) q36a q36c (g := (mkF m 76 #[.val (.ref r), .val (.ref b1), .val (.int 0)] [(.int d0), (.ref b1)])) rfl (by rw [hml]; rfl) (Steps.refl _) (argsL := [(.int d0)]) (rest := []) (lenOf pd24 rfl) rfl (Nat.le_of_eq rfl) (hb hby d5_76) (fun _ _ => ⟨rfl, e33, (by decide : 2 + 0 ≤ _), (by decide : 20 + 0 ≤ _)⟩)
  dsimp only [Pt.U, Pt.locs, Pt.cells, Pt.slots] at X36 l36 y36 z36 st36 hQ36
  subst l36 y36 z36
  obtain ⟨rfl, N36q, K36, f36_0, f36_1, f36_2, f36_3, f36_4⟩ := hQ36
  have N36 := Fr.app N26 N36q
  have Z37 : n0 ≤ T36.heap.size := Nat.le_trans Z27 K36.1
  have K38 : Keep h0 T36.heap [] := K28.trans K36 (allS (P := fun x => x ∈ _ ∨ _) (Or.inr sz_b1) (allS (P := fun x => x ∈ _ ∨ _) (Or.inr sz_va_9) all0))
  have fa39 := ((fa17.keep K26 (ninS ne2 (ninS ne13 nin0))).keep K36 (ninS ne2 (ninS ne13 nin0)))
  obtain ⟨T40, X40, e40, st40⟩ := getF X36 hx hZ hown (host := "") (Or.inl (ow hw 34 rfl)) Via.refl rfl fa39 (g := (mkF m 12 #[.val (.ref r), .val (.ref b1), .val (.int 1)] [(.ref r), (.int 1)])) rfl rfl (hb hby d5_12)
  have fa41 := (fa29.keep K36 (ninS ne2 (ninS ne13 nin0)))
  obtain ⟨T42, X42, e42, st42⟩ := getF X40 hx hZ hown (host := "") (Or.inl (ow hw 23 rfl)) Via.refl e40 fa41 (g := (mkF m 19 #[.val (.ref r), .val (.ref b1), .val (.int 1)] [(.ref r)])) rfl rfl (hb hby d5_19)
  have fa43 := (fa31.keep K36 (ninS ne4 (ninS ne15 nin0)))
  obtain ⟨c44, Arc44, qc44, Sc44, Mc44, Hc44, Gc44⟩ := id fa43
  have hinc44 : ¬ ((1 : Int32) < 0 ∨ c44.slots.size ≤ ((1 : Int32)).toNatClampNeg) := inb_of Sc44 ⟨by decide, by decide⟩
  have hatc44 : c44.slots[((1 : Int32)).toNatClampNeg]? = some (.int (-1)) := Hc44.at hinc44 rfl
  have fa45 := (fa35.keep K36 (allS (P := fun x => n0 ≤ x) gn_b1 (allS (P := fun x => n0 ≤ x) u8_0 all0)))
  obtain ⟨cq46, kq46, q46a, q46b, q46c⟩ := isOf hZ e42 f36_0
  obtain ⟨_, _, ⟨T46, L46, k46, n46⟩, -, X46, ⟨Lc46, hQ46, l46, y46, z46⟩, st46⟩ := X42.virtualBack hx (y := oM27) (z := oM27) hown (mvT hZ (ow hw 59 rfl)) (mvT hZ (ow hw 60 rfl)) (notFace_of_selects (args := #[]) (mvT hZ (ow hw 62 rfl))) (mvT hZ (ow hw 62 rfl)) (mvT hZ (ow hw 61 rfl)) (by decide) (backOf (W := 0) (rm8n2 l Z a0 hw [] b1 va_9 kv_10 (47 : Int32) bz0 (0 : Int32) (0 : Int32) cs T36.heap n0 Z37 f36_0 f36_1 f36_2 f36_3 f36_4 Cs (by first | assumption | decide | omega) fa45) hZ (ow hw 63 rfl) (ow hw 43 rfl) (by decide) (by decide)) q46a q46c (g := (mkF m 115 #[.val (.ref r), .val (.ref b1), .val (.int 1)] [(.ref b1)])) rfl (by rw [hml]; rfl) (Steps.refl _) (argsL := []) (rest := []) (lenOf pd22 rfl) rfl (Nat.le_of_eq rfl) (hb hby d5_115) (fun _ _ => ⟨rfl, e42, (by decide : 2 + 2 ≤ _), (by decide : 20 + 6 ≤ _)⟩)
  dsimp only [Pt.U, Pt.locs, Pt.cells, Pt.slots] at X46 l46 y46 z46 st46 hQ46
  subst l46 y46 z46
  obtain ⟨sa_47, vb_48, kb_49, rfl, N46q, K46, u46_0, u46_1, u46_2, u46_3, f46_0, f46_1, f46_2, f46_3⟩ := hQ46
  have N46 := Fr.app N36 N46q
  have Z50 : n0 ≤ T46.heap.size := Nat.le_trans Z37 K46.1
  have K51 : Keep h0 T46.heap [] := K38.trans K46 all0
  have ne52 : r ≠ sa_47 := Nat.ne_of_lt (Nat.lt_of_lt_of_le ((((F0.ext E1).keep K8).keep K26).keep K36).lt u46_1)
  have ne53 : ka ≠ sa_47 := Nat.ne_of_lt (Nat.lt_of_lt_of_le ((((F4.ext E1).keep K8 (ninS ne3 nin0)).keep K26 (ninS ne3 (ninS ne14 nin0))).keep K36 (ninS ne3 (ninS ne14 nin0))).lt u46_1)
  have ne54 : ia ≠ sa_47 := Nat.ne_of_lt (Nat.lt_of_lt_of_le fa43.lt u46_1)
  have ne55 : b1 ≠ sa_47 := Nat.ne_of_lt (Nat.lt_of_lt_of_le f36_0.lt u46_1)
  have ne56 : va_9 ≠ sa_47 := Nat.ne_of_lt (Nat.lt_of_lt_of_le f36_4.lt u46_1)
  have sz_sa_47 : h0.size ≤ sa_47 := Nat.le_trans K38.1 u46_1
  have ne57 : r ≠ vb_48 := Nat.ne_of_lt (Nat.lt_of_lt_of_le ((((F0.ext E1).keep K8).keep K26).keep K36).lt u46_3)
  have ne58 : ka ≠ vb_48 := Nat.ne_of_lt (Nat.lt_of_lt_of_le ((((F4.ext E1).keep K8 (ninS ne3 nin0)).keep K26 (ninS ne3 (ninS ne14 nin0))).keep K36 (ninS ne3 (ninS ne14 nin0))).lt u46_3)
  have ne59 : ia ≠ vb_48 := Nat.ne_of_lt (Nat.lt_of_lt_of_le fa43.lt u46_3)
  have ne60 : b1 ≠ vb_48 := Nat.ne_of_lt (Nat.lt_of_lt_of_le f36_0.lt u46_3)
  have ne61 : va_9 ≠ vb_48 := Nat.ne_of_lt (Nat.lt_of_lt_of_le f36_4.lt u46_3)
  have sz_vb_48 : h0.size ≤ vb_48 := Nat.le_trans K38.1 u46_3
  obtain ⟨fsZ, hrZ, hrun, hended, hW, hsame⟩ := X46.leave (v := some (.ref sa_47)) (fun h => by rw [Bd.returns] at h; cases h)
  refine ⟨_, _, pre0 _ ?_, hrun, hended, _, _, rfl, ?_, ⟨_, rfl⟩, hW, hsame.mono (by decide) (by decide)⟩
  · show Steps _ _ _ (s₁.setTop (mkF m 0 #[.val (.ref r), .unset, .unset] [])) _
    refine st1 _ ?_
    refine XS.dup X1.here hx rfl (hb hby d5_3) rfl rfl ?_
    show Steps _ _ _ (T1.setTop (mkF m 4 #[.val (.ref r), .unset, .unset] [(.ref b1), (.ref b1)])) _
    refine st8.trans ?_
    refine XS.astoreN X8.here hx rfl (hb hby d5_7) rfl rfl (l' := #[.val (.ref r), .val (.ref b1), .unset]) rfl ?_
    refine XS.iconst X8.here hx rfl (hb hby d5_8) ?_
    refine XS.istoreN X8.here hx rfl (hb hby d5_9) rfl (l' := #[.val (.ref r), .val (.ref b1), .val (.int 0)]) rfl ?_
    refine XS.iloadN X8.here hx rfl (hb hby d5_10) rfl  ?_
    refine XS.aloadN X8.here hx rfl (hb hby d5_11) rfl rfl ?_
    show Steps _ _ _ (T8.setTop (mkF m 12 #[.val (.ref r), .val (.ref b1), .val (.int 0)] [(.ref r), (.int 0)])) _
    refine st18 _ ?_
    refine XS.icmpNo X18.here hx rfl (hb hby d5_15) rfl (tlt (by decide)).2.1 ?_
    refine XS.aloadN X18.here hx rfl (hb hby d5_18) rfl rfl ?_
    show Steps _ _ _ (T18.setTop (mkF m 19 #[.val (.ref r), .val (.ref b1), .val (.int 0)] [(.ref r)])) _
    refine st20 _ ?_
    refine XS.iloadN X20.here hx rfl (hb hby d5_22) rfl  ?_
    show Steps _ _ _ (T20.setTop (mkF m 23 #[.val (.ref r), .val (.ref b1), .val (.int 0)] [(.int 0), (.ref ia)])) _
    refine X20.iaload hx (j := (0 : Int32)) (v := (.int d0)) (by rw [e20]; exact Arc22.1) (State.isArrayOf_alike hZ.alike Arc22.2.1) Arc22.2.2 hinc22 hatc22 (g := (mkF m 23 #[.val (.ref r), .val (.ref b1), .val (.int 0)] [(.int 0), (.ref ia)])) rfl rfl (hb hby d5_23) _ ?_
    refine XS.iconst X20.here hx rfl (hb hby d5_24) ?_
    refine XS.icmpNo X20.here hx rfl (hb hby d5_25) rfl (feq (by rcases hdd0 with rfl | rfl <;> decide)).1 ?_
    refine XS.aloadN X20.here hx rfl (hb hby d5_28) rfl rfl ?_
    show Steps _ _ _ (T20.setTop (mkF m 29 #[.val (.ref r), .val (.ref b1), .val (.int 0)] [(.ref r)])) _
    refine st23 _ ?_
    refine XS.iloadN X23.here hx rfl (hb hby d5_32) rfl  ?_
    show Steps _ _ _ (T23.setTop (mkF m 33 #[.val (.ref r), .val (.ref b1), .val (.int 0)] [(.int 0), (.ref ia)])) _
    refine X23.iaload hx (j := (0 : Int32)) (v := (.int d0)) (by rw [e23]; exact Arc24.1) (State.isArrayOf_alike hZ.alike Arc24.2.1) Arc24.2.2 hinc24 hatc24 (g := (mkF m 33 #[.val (.ref r), .val (.ref b1), .val (.int 0)] [(.int 0), (.ref ia)])) rfl rfl (hb hby d5_33) _ ?_
    refine XS.bipush X23.here hx rfl (hb hby d5_34) ?_
    refine XS.icmpYes X23.here hx rfl (pc0 := 36) (pc' := 51) rfl (hb hby d5_36) rfl (feq (by rcases hdd0 with rfl | rfl <;> decide)).2 (by decide) (by decide) ?_
    refine XS.aloadN X23.here hx rfl (hb hby d5_51) rfl rfl ?_
    refine XS.bipush X23.here hx rfl (hb hby d5_52) ?_
    show Steps _ _ _ (T23.setTop (mkF m 54 #[.val (.ref r), .val (.ref b1), .val (.int 0)] [(.int 47), (.ref b1)])) _
    refine st26.trans ?_
    refine XS.pop X26.here hx rfl (hb hby d5_57) rfl rfl ?_
    refine XS.aloadN X26.here hx rfl (hb hby d5_58) rfl rfl ?_
    show Steps _ _ _ (T26.setTop (mkF m 59 #[.val (.ref r), .val (.ref b1), .val (.int 0)] [(.ref r)])) _
    refine st30 _ ?_
    refine XS.iloadN X30.here hx rfl (hb hby d5_62) rfl  ?_
    show Steps _ _ _ (T30.setTop (mkF m 63 #[.val (.ref r), .val (.ref b1), .val (.int 0)] [(.int 0), (.ref ia)])) _
    refine X30.iaload hx (j := (0 : Int32)) (v := (.int d0)) (by rw [e30]; exact Arc32.1) (State.isArrayOf_alike hZ.alike Arc32.2.1) Arc32.2.2 hinc32 hatc32 (g := (mkF m 63 #[.val (.ref r), .val (.ref b1), .val (.int 0)] [(.int 0), (.ref ia)])) rfl rfl (hb hby d5_63) _ ?_
    refine XS.bipush X30.here hx rfl (hb hby d5_64) ?_
    refine XS.icmpNo X30.here hx rfl (hb hby d5_66) rfl (feq (by rcases hdd0 with rfl | rfl <;> decide)).1 ?_
    refine XS.aloadN X30.here hx rfl (hb hby d5_69) rfl rfl ?_
    refine XS.aloadN X30.here hx rfl (hb hby d5_70) rfl rfl ?_
    show Steps _ _ _ (T30.setTop (mkF m 71 #[.val (.ref r), .val (.ref b1), .val (.int 0)] [(.ref r), (.ref b1)])) _
    refine st33 _ ?_
    refine XS.iloadN X33.here hx rfl (hb hby d5_74) rfl  ?_
    show Steps _ _ _ (T33.setTop (mkF m 75 #[.val (.ref r), .val (.ref b1), .val (.int 0)] [(.int 0), (.ref ia), (.ref b1)])) _
    refine X33.iaload hx (j := (0 : Int32)) (v := (.int d0)) (by rw [e33]; exact Arc34.1) (State.isArrayOf_alike hZ.alike Arc34.2.1) Arc34.2.2 hinc34 hatc34 (g := (mkF m 75 #[.val (.ref r), .val (.ref b1), .val (.int 0)] [(.int 0), (.ref ia), (.ref b1)])) rfl rfl (hb hby d5_75) _ ?_
    show Steps _ _ _ (T33.setTop (mkF m 76 #[.val (.ref r), .val (.ref b1), .val (.int 0)] [(.int d0), (.ref b1)])) _
    refine st36.trans ?_
    refine XS.pop X36.here hx rfl (hb hby d5_79) rfl rfl ?_
    refine XS.goto X36.here hx rfl (pc0 := 80) (pc' := 108) rfl (hb hby d5_80) (by decide) (by decide) ?_
    refine XS.iinc X36.here hx rfl (hb hby d5_108) rfl (l' := #[.val (.ref r), .val (.ref b1), .val (.int ((0 : Int32) + (1 : Int32)))]) rfl ?_
    show Steps _ _ _ (T36.setTop (mkF m 111 #[.val (.ref r), .val (.ref b1), .val (.int ((0 : Int32) + (1 : Int32)))] [])) _
    rw [show ((0 : Int32) + (1 : Int32)) = (1 : Int32) from by decide]
    show Steps _ _ _ (T36.setTop (mkF m 111 #[.val (.ref r), .val (.ref b1), .val (.int 1)] [])) _
    refine XS.goto X36.here hx rfl (pc0 := 111) (pc' := 10) rfl (hb hby d5_111) (by decide) (by decide) ?_
    refine XS.iloadN X36.here hx rfl (hb hby d5_10) rfl  ?_
    refine XS.aloadN X36.here hx rfl (hb hby d5_11) rfl rfl ?_
    show Steps _ _ _ (T36.setTop (mkF m 12 #[.val (.ref r), .val (.ref b1), .val (.int 1)] [(.ref r), (.int 1)])) _
    refine st40 _ ?_
    refine XS.icmpNo X40.here hx rfl (hb hby d5_15) rfl (tlt (by decide)).2.1 ?_
    refine XS.aloadN X40.here hx rfl (hb hby d5_18) rfl rfl ?_
    show Steps _ _ _ (T40.setTop (mkF m 19 #[.val (.ref r), .val (.ref b1), .val (.int 1)] [(.ref r)])) _
    refine st42 _ ?_
    refine XS.iloadN X42.here hx rfl (hb hby d5_22) rfl  ?_
    show Steps _ _ _ (T42.setTop (mkF m 23 #[.val (.ref r), .val (.ref b1), .val (.int 1)] [(.int 1), (.ref ia)])) _
    refine X42.iaload hx (j := (1 : Int32)) (v := (.int (-1))) (by rw [e42]; exact Arc44.1) (State.isArrayOf_alike hZ.alike Arc44.2.1) Arc44.2.2 hinc44 hatc44 (g := (mkF m 23 #[.val (.ref r), .val (.ref b1), .val (.int 1)] [(.int 1), (.ref ia)])) rfl rfl (hb hby d5_23) _ ?_
    refine XS.iconst X42.here hx rfl (hb hby d5_24) ?_
    refine XS.icmpYes X42.here hx rfl (pc0 := 25) (pc' := 114) rfl (hb hby d5_25) rfl (teq (by decide)).1 (by decide) (by decide) ?_
    refine XS.aloadN X42.here hx rfl (hb hby d5_114) rfl rfl ?_
    show Steps _ _ _ (T42.setTop (mkF m 115 #[.val (.ref r), .val (.ref b1), .val (.int 1)] [(.ref b1)])) _
    refine st46.trans ?_
    show Steps _ _ _ (T46.setTop (mkF m 118 #[.val (.ref r), .val (.ref b1), .val (.int 1)] [(.ref sa_47)])) _
    jvm_step X46.here [X46.here.top, hx, (hb hby d5_118), X46.method', Bd.returns, Value.isRef, FieldType.isReference]
    first | (intro acts; rw [hrZ _ acts rfl rfl rfl]) | rw [hrZ _ _ rfl rfl rfl]
    exact Steps.refl _
  · show Q5_1 Z r ka ia kk ki cs da cd d0 bz0 h0 n0 _ T46.heap _
    exact ⟨sa_47, vb_48, kb_49, rfl, N46, K51, u46_0, sz_sa_47, u46_2, sz_vb_48, f46_0, f46_1, f46_2, f46_3⟩
theorem ef5_2 (m : MethodId) (r : Addr) : entryFrame m #[(.ref r)] 3 = mkF m 0 #[.val (.ref r), .unset, .unset] [] := by first | (simp [entryFrame, mkF, argsToLocals, Value.category]; done) | rfl
def Q5_2 (Z : State) (r : Addr) (ka : Addr) (ia : Addr) (kk : ClassId) (ki : ClassId) (cs : Int32) (da : Addr) (cd : Cell) (d0 : Int32) (d1 : Int32) (bz0 : Int32) (bz1 : Int32) (h0 : Heap) (n0 : Nat) (v : Option Value) (h : Heap) (L : List Loc) : Prop := ∃ (sa : Addr) (vb : Addr) (kb : ClassId), v = some (.ref sa) ∧ Fr n0 L ∧ Keep h0 h [] ∧ n0 ≤ sa ∧ h0.size ≤ sa ∧ n0 ≤ vb ∧ h0.size ≤ vb ∧ Exa Z h sa oS ∧ Fld Z h sa oS "coder" "B" (.int 0) ∧ Fld Z h sa oS "value" "[B" (.ref vb) ∧ Arv Z h vb kb .byte (4 : Int32) [(.int 47), (.int bz0), (.int 47), (.int bz1)] (.int 0)
theorem rm5_2 (l : Launch) (Z : State) (a0 : Array Value) (hw : ∀ d ∈ tables_1, d.before a0 Z = true) (ws : List Jvm.Cond) (r : Addr) (ka : Addr) (ia : Addr) (kk : ClassId) (ki : ClassId) (cs : Int32) (da : Addr) (cd : Cell) (d0 : Int32) (d1 : Int32) (bz0 : Int32) (bz1 : Int32) (h0 : Heap) (n0 : Nat) (Z0 : n0 ≤ h0.size) (F0 : Exa Z h0 r oJ) (F1 : Fld Z h0 r oJ "keys" "[Ljava/lang/String;" (.ref ka)) (F2 : Fld Z h0 r oJ "indexes" "[I" (.ref ia)) (F3 : Fld Z h0 r oJ "depth" "I" (.int 2)) (F4 : Arv Z h0 ka kk (.object oS) (16 : Int32) [] .null) (F5 : Arv Z h0 ia ki .int (16 : Int32) [(.int d0), (.int d1)] (.int 0)) (Cs : Sta Z Z.heap oS "COMPACT_STRINGS" "Z" (.int cs)) (hcs : ¬ (cs = (0 : Int32))) (Ox : Old Z n0 h0) (Dd : Sta Z Z.heap oI "DigitOnes" "[B" (.ref da)) (Da : Arr Z Z.heap da cd .byte) (hds : cd.slots.size = 100) (hdd0 : d0 = (0 : Int32) ∨ d0 = (1 : Int32)) (hdx0 : cd.slots[d0.toNatClampNeg]? = some (.int bz0)) (hbn0 : (bz0.toInt8.toInt32) = bz0) (hdd1 : d1 = (0 : Int32) ∨ d1 = (1 : Int32)) (hdx1 : cd.slots[d1.toNatClampNeg]? = some (.int bz1)) (hbn1 : (bz1.toInt8.toInt32) = bz1) :
    MetFree l oM28 (head1 (Jvm.Cond.code oM28 prog_48_method_11_code 3 (some (.object oS)) :: ws) oR27) (fun a U => a = #[(.ref r)] ∧ Z.Warmed39 U.vm ∧ U.heap = h0) (fun _ _ _ _ _ => True) (fun _ U o U' => ∃ v L, o = .returned v ∧ Q5_2 Z r ka ia kk ki cs da cd d0 d1 bz0 bz1 h0 n0 v U'.heap L ∧ FrameEnd U o U' L oR27.cells oR27.slots) := by
  refine MetFree.of_bodySF (plainFor_of_name pn0) hisR ?_
  intro p e s m args below meth c s₁ Bd hml0 hP hK
  obtain ⟨rfl, hZ, hh⟩ := hP
  have hx := Bd.exec
  have hby := Bd.bytes
  have hml : c.maxLocals = 3 := hml0
  have hown : s.vm.findClass oJ = some m.cls := findClass_of_methodNamed Bd.named
  have hnm := (name_of_methodNamed Bd.named Bd.method).1
  have X0 : Stand p l e oR27 s m #[(.ref r)] below meth c s₁ [] 0 0 := Stand.of_body Bd
  have e0 : s₁.heap = h0 := by rw [← hh, Bd.state]; rfl
  have N0 := Fr.nil n0
  have pre0 : ∀ tZ, Steps p.tables e below (s₁.setTop (mkF m 0 #[.val (.ref r), .unset, .unset] [])) tZ → Steps p.tables e below (s₁.setTop (entryFrame m #[(.ref r)] 3)) tZ := fun tZ kZ => castTop (ef5_2 m r) kZ
  obtain ⟨T1, h1, X1, e1, E1, A1, D1, -, st1⟩ := newO X0 hx hZ hown (ow hw 41 rfl) (ow hw 42 rfl) (ow hw 43 rfl) e0 (g := (mkF m 0 #[.val (.ref r), .unset, .unset] [])) rfl (hb hby d5_0) (by decide) (by decide)
  obtain ⟨b1, g1⟩ : ∃ z, z = h0.size := ⟨_, rfl⟩
  rw [← g1] at A1 D1 st1
  have ne2 : r ≠ b1 := Nat.ne_of_lt (Nat.lt_of_lt_of_le F0.lt (Nat.le_of_eq g1.symm))
  have ne3 : ka ≠ b1 := Nat.ne_of_lt (Nat.lt_of_lt_of_le F4.lt (Nat.le_of_eq g1.symm))
  have ne4 : ia ≠ b1 := Nat.ne_of_lt (Nat.lt_of_lt_of_le F5.lt (Nat.le_of_eq g1.symm))
  have gn_b1 : n0 ≤ b1 := Nat.le_trans Z0 (Nat.le_of_eq g1.symm)
  have sz_b1 : h0.size ≤ b1 := Nat.le_trans (Keep.refl h0 []).1 (Nat.le_of_eq g1.symm)
  have Z5 : n0 ≤ h1.size := Nat.le_trans Z0 E1.1
  have K6 : Keep h0 h1 [] := (Keep.refl h0 []).ext E1
  have F_value_b1 : Fld Z h1 b1 oA "value" "[B" .null := D1 (Or.inl (ow hw 56 rfl)) (ty := (.array .byte)) (by decide)
  have F_coder_b1 : Fld Z h1 b1 oA "coder" "B" (.int 0) := D1 (Or.inl (ow hw 58 rfl)) (ty := .byte) (by decide)
  have F_count_b1 : Fld Z h1 b1 oA "count" "I" (.int 0) := D1 (Or.inl (ow hw 88 rfl)) (ty := .int) (by decide)
  have fa7 := (Ox.ext E1)
  obtain ⟨_, _, ⟨T8, L8, k8, n8⟩, -, X8, ⟨Lc8, hQ8, l8, y8, z8⟩, st8⟩ := X1.specialBack hx (y := oM8) rfl hown (mvT hZ (ow hw 44 rfl)) (mvT hZ (ow hw 45 rfl)) (mvT hZ (ow hw 46 rfl)) (by decide) (backOf (W := 1) (rm6 l Z a0 hw [] b1 .null (.int 0) cs h1 n0 Z5 A1 F_value_b1 F_coder_b1 F_count_b1 gn_b1 Cs (by first | assumption | decide | omega) fa7) hZ (ow hw 46 rfl) (ow hw 43 rfl) (by decide) (by decide)) (g := (mkF m 4 #[.val (.ref r), .unset, .unset] [(.ref b1), (.ref b1)])) rfl (by rw [hml]; rfl) (Steps.refl _) (a := b1) (argsL := []) (rest := [(.ref b1)]) (lenOf pd21 rfl) rfl (Nat.le_of_eq rfl) (hb hby d5_4) (fun _ _ => ⟨rfl, e1, (by decide : 1 + 1 ≤ _), (by decide : 4 + 16 ≤ _)⟩)
  dsimp only [Pt.U, Pt.locs, Pt.cells, Pt.slots] at X8 l8 y8 z8 st8 hQ8
  subst l8 y8 z8
  obtain ⟨va_9, kv_10, rfl, N8q, K8, u8_0, u8_1, f8_0, f8_1, f8_2, f8_3, f8_4⟩ := hQ8
  have N8 := Fr.app N0 N8q
  have Z11 : n0 ≤ T8.heap.size := Nat.le_trans Z5 K8.1
  have K12 : Keep h0 T8.heap [] := K6.trans K8 (allS (P := fun x => x ∈ _ ∨ _) (Or.inr sz_b1) all0)
  have ne13 : r ≠ va_9 := Nat.ne_of_lt (Nat.lt_of_lt_of_le (F0.ext E1).lt u8_1)
  have ne14 : ka ≠ va_9 := Nat.ne_of_lt (Nat.lt_of_lt_of_le (F4.ext E1).lt u8_1)
  have ne15 : ia ≠ va_9 := Nat.ne_of_lt (Nat.lt_of_lt_of_le (F5.ext E1).lt u8_1)
  have ne16 : b1 ≠ va_9 := Nat.ne_of_lt (Nat.lt_of_lt_of_le A1.lt u8_1)
  have sz_va_9 : h0.size ≤ va_9 := Nat.le_trans K6.1 u8_1
  have fa17 := ((F3.ext E1).keep K8 (ninS ne2 nin0))
  obtain ⟨T18, X18, e18, st18⟩ := getF X8 hx hZ hown (host := "") (Or.inl (ow hw 34 rfl)) Via.refl rfl fa17 (g := (mkF m 12 #[.val (.ref r), .val (.ref b1), .val (.int 0)] [(.ref r), (.int 0)])) rfl rfl (hb hby d5_12)
  have fa19 := ((F2.ext E1).keep K8 (ninS ne2 nin0))
  obtain ⟨T20, X20, e20, st20⟩ := getF X18 hx hZ hown (host := "") (Or.inl (ow hw 23 rfl)) Via.refl e18 fa19 (g := (mkF m 19 #[.val (.ref r), .val (.ref b1), .val (.int 0)] [(.ref r)])) rfl rfl (hb hby d5_19)
  have fa21 := ((F5.ext E1).keep K8 (ninS ne4 nin0))
  obtain ⟨c22, Arc22, qc22, Sc22, Mc22, Hc22, Gc22⟩ := id fa21
  have hinc22 : ¬ ((0 : Int32) < 0 ∨ c22.slots.size ≤ ((0 : Int32)).toNatClampNeg) := inb_of Sc22 ⟨by decide, by decide⟩
  have hatc22 : c22.slots[((0 : Int32)).toNatClampNeg]? = some (.int d0) := Hc22.at hinc22 rfl
  obtain ⟨T23, X23, e23, st23⟩ := getF X20 hx hZ hown (host := "") (Or.inl (ow hw 23 rfl)) Via.refl e20 fa19 (g := (mkF m 29 #[.val (.ref r), .val (.ref b1), .val (.int 0)] [(.ref r)])) rfl rfl (hb hby d5_29)
  obtain ⟨c24, Arc24, qc24, Sc24, Mc24, Hc24, Gc24⟩ := id fa21
  have hinc24 : ¬ ((0 : Int32) < 0 ∨ c24.slots.size ≤ ((0 : Int32)).toNatClampNeg) := inb_of Sc24 ⟨by decide, by decide⟩
  have hatc24 : c24.slots[((0 : Int32)).toNatClampNeg]? = some (.int d0) := Hc24.at hinc24 rfl
  have fa25 := (fa7.keep K8 (allS (P := fun x => n0 ≤ x) gn_b1 all0))
  obtain ⟨cq26, kq26, q26a, q26b, q26c⟩ := isOf hZ e23 f8_0
  obtain ⟨_, _, ⟨T26, L26, k26, n26⟩, -, X26, ⟨Lc26, hQ26, l26, y26, z26⟩, st26⟩ := X23.virtualBack hx (y := oM13) (z := oM13) hown (mvT hZ (ow hw 163 rfl)) (mvT hZ (ow hw 164 rfl)) (notFace_of_selects (args := #[]) (mvT hZ (ow hw 166 rfl))) (mvT hZ (ow hw 166 rfl)) (mvT hZ (ow hw 165 rfl)) (by decide) (backOf (W := 0) (rm30c0 l Z a0 hw [] b1 va_9 kv_10 (0 : Int32) (0 : Int32) (0 : Int32) (0 : Int32) cs T8.heap n0 Z11 f8_0 f8_1 f8_2 f8_3 f8_4 gn_b1 u8_0 ne16 Cs (by first | assumption | decide | omega) fa25) hZ (ow hw 167 rfl) (ow hw 43 rfl) (by decide) (by decide)) q26a q26c (g := (mkF m 54 #[.val (.ref r), .val (.ref b1), .val (.int 0)] [(.int 47), (.ref b1)])) rfl (by rw [hml]; rfl) (Steps.refl _) (argsL := [(.int 47)]) (rest := []) (lenOf pd23 rfl) rfl (Nat.le_of_eq rfl) (hb hby d5_54) (fun _ _ => ⟨rfl, e23, (by decide : 2 + 0 ≤ _), (by decide : 20 + 0 ≤ _)⟩)
  dsimp only [Pt.U, Pt.locs, Pt.cells, Pt.slots] at X26 l26 y26 z26 st26 hQ26
  subst l26 y26 z26
  obtain ⟨rfl, N26q, K26, f26_0, f26_1, f26_2, f26_3, f26_4⟩ := hQ26
  have N26 := Fr.app N8 N26q
  have Z27 : n0 ≤ T26.heap.size := Nat.le_trans Z11 K26.1
  have K28 : Keep h0 T26.heap [] := K12.trans K26 (allS (P := fun x => x ∈ _ ∨ _) (Or.inr sz_b1) (allS (P := fun x => x ∈ _ ∨ _) (Or.inr sz_va_9) all0))
  have fa29 := (fa19.keep K26 (ninS ne2 (ninS ne13 nin0)))
  obtain ⟨T30, X30, e30, st30⟩ := getF X26 hx hZ hown (host := "") (Or.inl (ow hw 23 rfl)) Via.refl rfl fa29 (g := (mkF m 59 #[.val (.ref r), .val (.ref b1), .val (.int 0)] [(.ref r)])) rfl rfl (hb hby d5_59)
  have fa31 := (fa21.keep K26 (ninS ne4 (ninS ne15 nin0)))
  obtain ⟨c32, Arc32, qc32, Sc32, Mc32, Hc32, Gc32⟩ := id fa31
  have hinc32 : ¬ ((0 : Int32) < 0 ∨ c32.slots.size ≤ ((0 : Int32)).toNatClampNeg) := inb_of Sc32 ⟨by decide, by decide⟩
  have hatc32 : c32.slots[((0 : Int32)).toNatClampNeg]? = some (.int d0) := Hc32.at hinc32 rfl
  obtain ⟨T33, X33, e33, st33⟩ := getF X30 hx hZ hown (host := "") (Or.inl (ow hw 23 rfl)) Via.refl e30 fa29 (g := (mkF m 71 #[.val (.ref r), .val (.ref b1), .val (.int 0)] [(.ref r), (.ref b1)])) rfl rfl (hb hby d5_71)
  obtain ⟨c34, Arc34, qc34, Sc34, Mc34, Hc34, Gc34⟩ := id fa31
  have hinc34 : ¬ ((0 : Int32) < 0 ∨ c34.slots.size ≤ ((0 : Int32)).toNatClampNeg) := inb_of Sc34 ⟨by decide, by decide⟩
  have hatc34 : c34.slots[((0 : Int32)).toNatClampNeg]? = some (.int d0) := Hc34.at hinc34 rfl
  have fa35 := (fa25.keep K26 (allS (P := fun x => n0 ≤ x) gn_b1 (allS (P := fun x => n0 ≤ x) u8_0 all0)))
  obtain ⟨cq36, kq36, q36a, q36b, q36c⟩ := isOf hZ e33 f26_0
  obtain ⟨_, _, ⟨T36, L36, k36, n36⟩, -, X36, ⟨Lc36, hQ36, l36, y36, z36⟩, st36⟩ := X33.virtualBack hx (y := oM17) (z := oM17) hown (mvT hZ (ow hw 181 rfl)) (mvT hZ (ow hw 182 rfl)) (notFace_of_selects (args := #[]) (mvT hZ (ow hw 184 rfl))) (mvT hZ (ow hw 184 rfl)) (mvT hZ (ow hw 183 rfl)) (by decide) (backOf (W := 0) (rm34c1 l Z a0 hw [] b1 d0 va_9 kv_10 (47 : Int32) (0 : Int32) (0 : Int32) (0 : Int32) cs da cd bz0 T26.heap n0 Z27 f26_0 f26_1 f26_2 f26_3 f26_4 gn_b1 u8_0 ne16 Cs (by first | assumption | decide | omega) fa35 Dd Da (by first | assumption | decide | omega) (by first | assumption | decide | omega) (by first | assumption | decide | omega) (by first | assumption | decide | omega)) hZ (ow hw 185 rfl) (ow hw 43 rfl) (by decide) (by decide)) q36a q36c (g := (mkF m 76 #[.val (.ref r), .val (.ref b1), .val (.int 0)] [(.int d0), (.ref b1)])) rfl (by rw [hml]; rfl) (Steps.refl _) (argsL := [(.int d0)]) (rest := []) (lenOf pd24 rfl) rfl (Nat.le_of_eq rfl) (hb hby d5_76) (fun _ _ => ⟨rfl, e33, (by decide : 2 + 0 ≤ _), (by decide : 20 + 0 ≤ _)⟩)
  dsimp only [Pt.U, Pt.locs, Pt.cells, Pt.slots] at X36 l36 y36 z36 st36 hQ36
  subst l36 y36 z36
  obtain ⟨rfl, N36q, K36, f36_0, f36_1, f36_2, f36_3, f36_4⟩ := hQ36
  have N36 := Fr.app N26 N36q
  have Z37 : n0 ≤ T36.heap.size := Nat.le_trans Z27 K36.1
  have K38 : Keep h0 T36.heap [] := K28.trans K36 (allS (P := fun x => x ∈ _ ∨ _) (Or.inr sz_b1) (allS (P := fun x => x ∈ _ ∨ _) (Or.inr sz_va_9) all0))
  have fa39 := ((fa17.keep K26 (ninS ne2 (ninS ne13 nin0))).keep K36 (ninS ne2 (ninS ne13 nin0)))
  obtain ⟨T40, X40, e40, st40⟩ := getF X36 hx hZ hown (host := "") (Or.inl (ow hw 34 rfl)) Via.refl rfl fa39 (g := (mkF m 12 #[.val (.ref r), .val (.ref b1), .val (.int 1)] [(.ref r), (.int 1)])) rfl rfl (hb hby d5_12)
  have fa41 := (fa29.keep K36 (ninS ne2 (ninS ne13 nin0)))
  obtain ⟨T42, X42, e42, st42⟩ := getF X40 hx hZ hown (host := "") (Or.inl (ow hw 23 rfl)) Via.refl e40 fa41 (g := (mkF m 19 #[.val (.ref r), .val (.ref b1), .val (.int 1)] [(.ref r)])) rfl rfl (hb hby d5_19)
  have fa43 := (fa31.keep K36 (ninS ne4 (ninS ne15 nin0)))
  obtain ⟨c44, Arc44, qc44, Sc44, Mc44, Hc44, Gc44⟩ := id fa43
  have hinc44 : ¬ ((1 : Int32) < 0 ∨ c44.slots.size ≤ ((1 : Int32)).toNatClampNeg) := inb_of Sc44 ⟨by decide, by decide⟩
  have hatc44 : c44.slots[((1 : Int32)).toNatClampNeg]? = some (.int d1) := Hc44.at hinc44 rfl
  obtain ⟨T45, X45, e45, st45⟩ := getF X42 hx hZ hown (host := "") (Or.inl (ow hw 23 rfl)) Via.refl e42 fa41 (g := (mkF m 29 #[.val (.ref r), .val (.ref b1), .val (.int 1)] [(.ref r)])) rfl rfl (hb hby d5_29)
  obtain ⟨c46, Arc46, qc46, Sc46, Mc46, Hc46, Gc46⟩ := id fa43
  have hinc46 : ¬ ((1 : Int32) < 0 ∨ c46.slots.size ≤ ((1 : Int32)).toNatClampNeg) := inb_of Sc46 ⟨by decide, by decide⟩
  have hatc46 : c46.slots[((1 : Int32)).toNatClampNeg]? = some (.int d1) := Hc46.at hinc46 rfl
  have fa47 := (fa35.keep K36 (allS (P := fun x => n0 ≤ x) gn_b1 (allS (P := fun x => n0 ≤ x) u8_0 all0)))
  obtain ⟨cq48, kq48, q48a, q48b, q48c⟩ := isOf hZ e45 f36_0
  obtain ⟨_, _, ⟨T48, L48, k48, n48⟩, -, X48, ⟨Lc48, hQ48, l48, y48, z48⟩, st48⟩ := X45.virtualBack hx (y := oM13) (z := oM13) hown (mvT hZ (ow hw 163 rfl)) (mvT hZ (ow hw 164 rfl)) (notFace_of_selects (args := #[]) (mvT hZ (ow hw 166 rfl))) (mvT hZ (ow hw 166 rfl)) (mvT hZ (ow hw 165 rfl)) (by decide) (backOf (W := 0) (rm30c2 l Z a0 hw [] b1 va_9 kv_10 (47 : Int32) bz0 (0 : Int32) (0 : Int32) cs T36.heap n0 Z37 f36_0 f36_1 f36_2 f36_3 f36_4 gn_b1 u8_0 ne16 Cs (by first | assumption | decide | omega) fa47) hZ (ow hw 167 rfl) (ow hw 43 rfl) (by decide) (by decide)) q48a q48c (g := (mkF m 54 #[.val (.ref r), .val (.ref b1), .val (.int 1)] [(.int 47), (.ref b1)])) rfl (by rw [hml]; rfl) (Steps.refl _) (argsL := [(.int 47)]) (rest := []) (lenOf pd23 rfl) rfl (Nat.le_of_eq rfl) (hb hby d5_54) (fun _ _ => ⟨rfl, e45, (by decide : 2 + 0 ≤ _), (by decide : 20 + 0 ≤ _)⟩)
  dsimp only [Pt.U, Pt.locs, Pt.cells, Pt.slots] at X48 l48 y48 z48 st48 hQ48
  subst l48 y48 z48
  obtain ⟨rfl, N48q, K48, f48_0, f48_1, f48_2, f48_3, f48_4⟩ := hQ48
  have N48 := Fr.app N36 N48q
  have Z49 : n0 ≤ T48.heap.size := Nat.le_trans Z37 K48.1
  have K50 : Keep h0 T48.heap [] := K38.trans K48 (allS (P := fun x => x ∈ _ ∨ _) (Or.inr sz_b1) (allS (P := fun x => x ∈ _ ∨ _) (Or.inr sz_va_9) all0))
  have fa51 := (fa41.keep K48 (ninS ne2 (ninS ne13 nin0)))
  obtain ⟨T52, X52, e52, st52⟩ := getF X48 hx hZ hown (host := "") (Or.inl (ow hw 23 rfl)) Via.refl rfl fa51 (g := (mkF m 59 #[.val (.ref r), .val (.ref b1), .val (.int 1)] [(.ref r)])) rfl rfl (hb hby d5_59)
  have fa53 := (fa43.keep K48 (ninS ne4 (ninS ne15 nin0)))
  obtain ⟨c54, Arc54, qc54, Sc54, Mc54, Hc54, Gc54⟩ := id fa53
  have hinc54 : ¬ ((1 : Int32) < 0 ∨ c54.slots.size ≤ ((1 : Int32)).toNatClampNeg) := inb_of Sc54 ⟨by decide, by decide⟩
  have hatc54 : c54.slots[((1 : Int32)).toNatClampNeg]? = some (.int d1) := Hc54.at hinc54 rfl
  obtain ⟨T55, X55, e55, st55⟩ := getF X52 hx hZ hown (host := "") (Or.inl (ow hw 23 rfl)) Via.refl e52 fa51 (g := (mkF m 71 #[.val (.ref r), .val (.ref b1), .val (.int 1)] [(.ref r), (.ref b1)])) rfl rfl (hb hby d5_71)
  obtain ⟨c56, Arc56, qc56, Sc56, Mc56, Hc56, Gc56⟩ := id fa53
  have hinc56 : ¬ ((1 : Int32) < 0 ∨ c56.slots.size ≤ ((1 : Int32)).toNatClampNeg) := inb_of Sc56 ⟨by decide, by decide⟩
  have hatc56 : c56.slots[((1 : Int32)).toNatClampNeg]? = some (.int d1) := Hc56.at hinc56 rfl
  have fa57 := (fa47.keep K48 (allS (P := fun x => n0 ≤ x) gn_b1 (allS (P := fun x => n0 ≤ x) u8_0 all0)))
  obtain ⟨cq58, kq58, q58a, q58b, q58c⟩ := isOf hZ e55 f48_0
  obtain ⟨_, _, ⟨T58, L58, k58, n58⟩, -, X58, ⟨Lc58, hQ58, l58, y58, z58⟩, st58⟩ := X55.virtualBack hx (y := oM17) (z := oM17) hown (mvT hZ (ow hw 181 rfl)) (mvT hZ (ow hw 182 rfl)) (notFace_of_selects (args := #[]) (mvT hZ (ow hw 184 rfl))) (mvT hZ (ow hw 184 rfl)) (mvT hZ (ow hw 183 rfl)) (by decide) (backOf (W := 0) (rm34c3 l Z a0 hw [] b1 d1 va_9 kv_10 (47 : Int32) bz0 (47 : Int32) (0 : Int32) cs da cd bz1 T48.heap n0 Z49 f48_0 f48_1 f48_2 f48_3 f48_4 gn_b1 u8_0 ne16 Cs (by first | assumption | decide | omega) fa57 Dd Da (by first | assumption | decide | omega) (by first | assumption | decide | omega) (by first | assumption | decide | omega) (by first | assumption | decide | omega)) hZ (ow hw 185 rfl) (ow hw 43 rfl) (by decide) (by decide)) q58a q58c (g := (mkF m 76 #[.val (.ref r), .val (.ref b1), .val (.int 1)] [(.int d1), (.ref b1)])) rfl (by rw [hml]; rfl) (Steps.refl _) (argsL := [(.int d1)]) (rest := []) (lenOf pd24 rfl) rfl (Nat.le_of_eq rfl) (hb hby d5_76) (fun _ _ => ⟨rfl, e55, (by decide : 2 + 0 ≤ _), (by decide : 20 + 0 ≤ _)⟩)
  dsimp only [Pt.U, Pt.locs, Pt.cells, Pt.slots] at X58 l58 y58 z58 st58 hQ58
  subst l58 y58 z58
  obtain ⟨rfl, N58q, K58, f58_0, f58_1, f58_2, f58_3, f58_4⟩ := hQ58
  have N58 := Fr.app N48 N58q
  have Z59 : n0 ≤ T58.heap.size := Nat.le_trans Z49 K58.1
  have K60 : Keep h0 T58.heap [] := K50.trans K58 (allS (P := fun x => x ∈ _ ∨ _) (Or.inr sz_b1) (allS (P := fun x => x ∈ _ ∨ _) (Or.inr sz_va_9) all0))
  have fa61 := ((fa39.keep K48 (ninS ne2 (ninS ne13 nin0))).keep K58 (ninS ne2 (ninS ne13 nin0)))
  obtain ⟨T62, X62, e62, st62⟩ := getF X58 hx hZ hown (host := "") (Or.inl (ow hw 34 rfl)) Via.refl rfl fa61 (g := (mkF m 12 #[.val (.ref r), .val (.ref b1), .val (.int 2)] [(.ref r), (.int 2)])) rfl rfl (hb hby d5_12)
  have fa63 := (fa57.keep K58 (allS (P := fun x => n0 ≤ x) gn_b1 (allS (P := fun x => n0 ≤ x) u8_0 all0)))
  obtain ⟨cq64, kq64, q64a, q64b, q64c⟩ := isOf hZ e62 f58_0
  obtain ⟨_, _, ⟨T64, L64, k64, n64⟩, -, X64, ⟨Lc64, hQ64, l64, y64, z64⟩, st64⟩ := X62.virtualBack hx (y := oM27) (z := oM27) hown (mvT hZ (ow hw 59 rfl)) (mvT hZ (ow hw 60 rfl)) (notFace_of_selects (args := #[]) (mvT hZ (ow hw 62 rfl))) (mvT hZ (ow hw 62 rfl)) (mvT hZ (ow hw 61 rfl)) (by decide) (backOf (W := 0) (rm8n4 l Z a0 hw [] b1 va_9 kv_10 (47 : Int32) bz0 (47 : Int32) bz1 cs T58.heap n0 Z59 f58_0 f58_1 f58_2 f58_3 f58_4 Cs (by first | assumption | decide | omega) fa63) hZ (ow hw 63 rfl) (ow hw 43 rfl) (by decide) (by decide)) q64a q64c (g := (mkF m 115 #[.val (.ref r), .val (.ref b1), .val (.int 2)] [(.ref b1)])) rfl (by rw [hml]; rfl) (Steps.refl _) (argsL := []) (rest := []) (lenOf pd22 rfl) rfl (Nat.le_of_eq rfl) (hb hby d5_115) (fun _ _ => ⟨rfl, e62, (by decide : 2 + 2 ≤ _), (by decide : 20 + 8 ≤ _)⟩)
  dsimp only [Pt.U, Pt.locs, Pt.cells, Pt.slots] at X64 l64 y64 z64 st64 hQ64
  subst l64 y64 z64
  obtain ⟨sa_65, vb_66, kb_67, rfl, N64q, K64, u64_0, u64_1, u64_2, u64_3, f64_0, f64_1, f64_2, f64_3⟩ := hQ64
  have N64 := Fr.app N58 N64q
  have Z68 : n0 ≤ T64.heap.size := Nat.le_trans Z59 K64.1
  have K69 : Keep h0 T64.heap [] := K60.trans K64 all0
  have ne70 : r ≠ sa_65 := Nat.ne_of_lt (Nat.lt_of_lt_of_le ((((((F0.ext E1).keep K8).keep K26).keep K36).keep K48).keep K58).lt u64_1)
  have ne71 : ka ≠ sa_65 := Nat.ne_of_lt (Nat.lt_of_lt_of_le ((((((F4.ext E1).keep K8 (ninS ne3 nin0)).keep K26 (ninS ne3 (ninS ne14 nin0))).keep K36 (ninS ne3 (ninS ne14 nin0))).keep K48 (ninS ne3 (ninS ne14 nin0))).keep K58 (ninS ne3 (ninS ne14 nin0))).lt u64_1)
  have ne72 : ia ≠ sa_65 := Nat.ne_of_lt (Nat.lt_of_lt_of_le (fa53.keep K58 (ninS ne4 (ninS ne15 nin0))).lt u64_1)
  have ne73 : b1 ≠ sa_65 := Nat.ne_of_lt (Nat.lt_of_lt_of_le f58_0.lt u64_1)
  have ne74 : va_9 ≠ sa_65 := Nat.ne_of_lt (Nat.lt_of_lt_of_le f58_4.lt u64_1)
  have sz_sa_65 : h0.size ≤ sa_65 := Nat.le_trans K60.1 u64_1
  have ne75 : r ≠ vb_66 := Nat.ne_of_lt (Nat.lt_of_lt_of_le ((((((F0.ext E1).keep K8).keep K26).keep K36).keep K48).keep K58).lt u64_3)
  have ne76 : ka ≠ vb_66 := Nat.ne_of_lt (Nat.lt_of_lt_of_le ((((((F4.ext E1).keep K8 (ninS ne3 nin0)).keep K26 (ninS ne3 (ninS ne14 nin0))).keep K36 (ninS ne3 (ninS ne14 nin0))).keep K48 (ninS ne3 (ninS ne14 nin0))).keep K58 (ninS ne3 (ninS ne14 nin0))).lt u64_3)
  have ne77 : ia ≠ vb_66 := Nat.ne_of_lt (Nat.lt_of_lt_of_le (fa53.keep K58 (ninS ne4 (ninS ne15 nin0))).lt u64_3)
  have ne78 : b1 ≠ vb_66 := Nat.ne_of_lt (Nat.lt_of_lt_of_le f58_0.lt u64_3)
  have ne79 : va_9 ≠ vb_66 := Nat.ne_of_lt (Nat.lt_of_lt_of_le f58_4.lt u64_3)
  have sz_vb_66 : h0.size ≤ vb_66 := Nat.le_trans K60.1 u64_3
  obtain ⟨fsZ, hrZ, hrun, hended, hW, hsame⟩ := X64.leave (v := some (.ref sa_65)) (fun h => by rw [Bd.returns] at h; cases h)
  refine ⟨_, _, pre0 _ ?_, hrun, hended, _, _, rfl, ?_, ⟨_, rfl⟩, hW, hsame.mono (by decide) (by decide)⟩
  · show Steps _ _ _ (s₁.setTop (mkF m 0 #[.val (.ref r), .unset, .unset] [])) _
    refine st1 _ ?_
    refine XS.dup X1.here hx rfl (hb hby d5_3) rfl rfl ?_
    show Steps _ _ _ (T1.setTop (mkF m 4 #[.val (.ref r), .unset, .unset] [(.ref b1), (.ref b1)])) _
    refine st8.trans ?_
    refine XS.astoreN X8.here hx rfl (hb hby d5_7) rfl rfl (l' := #[.val (.ref r), .val (.ref b1), .unset]) rfl ?_
    refine XS.iconst X8.here hx rfl (hb hby d5_8) ?_
    refine XS.istoreN X8.here hx rfl (hb hby d5_9) rfl (l' := #[.val (.ref r), .val (.ref b1), .val (.int 0)]) rfl ?_
    refine XS.iloadN X8.here hx rfl (hb hby d5_10) rfl  ?_
    refine XS.aloadN X8.here hx rfl (hb hby d5_11) rfl rfl ?_
    show Steps _ _ _ (T8.setTop (mkF m 12 #[.val (.ref r), .val (.ref b1), .val (.int 0)] [(.ref r), (.int 0)])) _
    refine st18 _ ?_
    refine XS.icmpNo X18.here hx rfl (hb hby d5_15) rfl (tlt (by decide)).2.1 ?_
    refine XS.aloadN X18.here hx rfl (hb hby d5_18) rfl rfl ?_
    show Steps _ _ _ (T18.setTop (mkF m 19 #[.val (.ref r), .val (.ref b1), .val (.int 0)] [(.ref r)])) _
    refine st20 _ ?_
    refine XS.iloadN X20.here hx rfl (hb hby d5_22) rfl  ?_
    show Steps _ _ _ (T20.setTop (mkF m 23 #[.val (.ref r), .val (.ref b1), .val (.int 0)] [(.int 0), (.ref ia)])) _
    refine X20.iaload hx (j := (0 : Int32)) (v := (.int d0)) (by rw [e20]; exact Arc22.1) (State.isArrayOf_alike hZ.alike Arc22.2.1) Arc22.2.2 hinc22 hatc22 (g := (mkF m 23 #[.val (.ref r), .val (.ref b1), .val (.int 0)] [(.int 0), (.ref ia)])) rfl rfl (hb hby d5_23) _ ?_
    refine XS.iconst X20.here hx rfl (hb hby d5_24) ?_
    refine XS.icmpNo X20.here hx rfl (hb hby d5_25) rfl (feq (by rcases hdd0 with rfl | rfl <;> decide)).1 ?_
    refine XS.aloadN X20.here hx rfl (hb hby d5_28) rfl rfl ?_
    show Steps _ _ _ (T20.setTop (mkF m 29 #[.val (.ref r), .val (.ref b1), .val (.int 0)] [(.ref r)])) _
    refine st23 _ ?_
    refine XS.iloadN X23.here hx rfl (hb hby d5_32) rfl  ?_
    show Steps _ _ _ (T23.setTop (mkF m 33 #[.val (.ref r), .val (.ref b1), .val (.int 0)] [(.int 0), (.ref ia)])) _
    refine X23.iaload hx (j := (0 : Int32)) (v := (.int d0)) (by rw [e23]; exact Arc24.1) (State.isArrayOf_alike hZ.alike Arc24.2.1) Arc24.2.2 hinc24 hatc24 (g := (mkF m 33 #[.val (.ref r), .val (.ref b1), .val (.int 0)] [(.int 0), (.ref ia)])) rfl rfl (hb hby d5_33) _ ?_
    refine XS.bipush X23.here hx rfl (hb hby d5_34) ?_
    refine XS.icmpYes X23.here hx rfl (pc0 := 36) (pc' := 51) rfl (hb hby d5_36) rfl (feq (by rcases hdd0 with rfl | rfl <;> decide)).2 (by decide) (by decide) ?_
    refine XS.aloadN X23.here hx rfl (hb hby d5_51) rfl rfl ?_
    refine XS.bipush X23.here hx rfl (hb hby d5_52) ?_
    show Steps _ _ _ (T23.setTop (mkF m 54 #[.val (.ref r), .val (.ref b1), .val (.int 0)] [(.int 47), (.ref b1)])) _
    refine st26.trans ?_
    refine XS.pop X26.here hx rfl (hb hby d5_57) rfl rfl ?_
    refine XS.aloadN X26.here hx rfl (hb hby d5_58) rfl rfl ?_
    show Steps _ _ _ (T26.setTop (mkF m 59 #[.val (.ref r), .val (.ref b1), .val (.int 0)] [(.ref r)])) _
    refine st30 _ ?_
    refine XS.iloadN X30.here hx rfl (hb hby d5_62) rfl  ?_
    show Steps _ _ _ (T30.setTop (mkF m 63 #[.val (.ref r), .val (.ref b1), .val (.int 0)] [(.int 0), (.ref ia)])) _
    refine X30.iaload hx (j := (0 : Int32)) (v := (.int d0)) (by rw [e30]; exact Arc32.1) (State.isArrayOf_alike hZ.alike Arc32.2.1) Arc32.2.2 hinc32 hatc32 (g := (mkF m 63 #[.val (.ref r), .val (.ref b1), .val (.int 0)] [(.int 0), (.ref ia)])) rfl rfl (hb hby d5_63) _ ?_
    refine XS.bipush X30.here hx rfl (hb hby d5_64) ?_
    refine XS.icmpNo X30.here hx rfl (hb hby d5_66) rfl (feq (by rcases hdd0 with rfl | rfl <;> decide)).1 ?_
    refine XS.aloadN X30.here hx rfl (hb hby d5_69) rfl rfl ?_
    refine XS.aloadN X30.here hx rfl (hb hby d5_70) rfl rfl ?_
    show Steps _ _ _ (T30.setTop (mkF m 71 #[.val (.ref r), .val (.ref b1), .val (.int 0)] [(.ref r), (.ref b1)])) _
    refine st33 _ ?_
    refine XS.iloadN X33.here hx rfl (hb hby d5_74) rfl  ?_
    show Steps _ _ _ (T33.setTop (mkF m 75 #[.val (.ref r), .val (.ref b1), .val (.int 0)] [(.int 0), (.ref ia), (.ref b1)])) _
    refine X33.iaload hx (j := (0 : Int32)) (v := (.int d0)) (by rw [e33]; exact Arc34.1) (State.isArrayOf_alike hZ.alike Arc34.2.1) Arc34.2.2 hinc34 hatc34 (g := (mkF m 75 #[.val (.ref r), .val (.ref b1), .val (.int 0)] [(.int 0), (.ref ia), (.ref b1)])) rfl rfl (hb hby d5_75) _ ?_
    show Steps _ _ _ (T33.setTop (mkF m 76 #[.val (.ref r), .val (.ref b1), .val (.int 0)] [(.int d0), (.ref b1)])) _
    refine st36.trans ?_
    refine XS.pop X36.here hx rfl (hb hby d5_79) rfl rfl ?_
    refine XS.goto X36.here hx rfl (pc0 := 80) (pc' := 108) rfl (hb hby d5_80) (by decide) (by decide) ?_
    refine XS.iinc X36.here hx rfl (hb hby d5_108) rfl (l' := #[.val (.ref r), .val (.ref b1), .val (.int ((0 : Int32) + (1 : Int32)))]) rfl ?_
    show Steps _ _ _ (T36.setTop (mkF m 111 #[.val (.ref r), .val (.ref b1), .val (.int ((0 : Int32) + (1 : Int32)))] [])) _
    rw [show ((0 : Int32) + (1 : Int32)) = (1 : Int32) from by decide]
    show Steps _ _ _ (T36.setTop (mkF m 111 #[.val (.ref r), .val (.ref b1), .val (.int 1)] [])) _
    refine XS.goto X36.here hx rfl (pc0 := 111) (pc' := 10) rfl (hb hby d5_111) (by decide) (by decide) ?_
    refine XS.iloadN X36.here hx rfl (hb hby d5_10) rfl  ?_
    refine XS.aloadN X36.here hx rfl (hb hby d5_11) rfl rfl ?_
    show Steps _ _ _ (T36.setTop (mkF m 12 #[.val (.ref r), .val (.ref b1), .val (.int 1)] [(.ref r), (.int 1)])) _
    refine st40 _ ?_
    refine XS.icmpNo X40.here hx rfl (hb hby d5_15) rfl (tlt (by decide)).2.1 ?_
    refine XS.aloadN X40.here hx rfl (hb hby d5_18) rfl rfl ?_
    show Steps _ _ _ (T40.setTop (mkF m 19 #[.val (.ref r), .val (.ref b1), .val (.int 1)] [(.ref r)])) _
    refine st42 _ ?_
    refine XS.iloadN X42.here hx rfl (hb hby d5_22) rfl  ?_
    show Steps _ _ _ (T42.setTop (mkF m 23 #[.val (.ref r), .val (.ref b1), .val (.int 1)] [(.int 1), (.ref ia)])) _
    refine X42.iaload hx (j := (1 : Int32)) (v := (.int d1)) (by rw [e42]; exact Arc44.1) (State.isArrayOf_alike hZ.alike Arc44.2.1) Arc44.2.2 hinc44 hatc44 (g := (mkF m 23 #[.val (.ref r), .val (.ref b1), .val (.int 1)] [(.int 1), (.ref ia)])) rfl rfl (hb hby d5_23) _ ?_
    refine XS.iconst X42.here hx rfl (hb hby d5_24) ?_
    refine XS.icmpNo X42.here hx rfl (hb hby d5_25) rfl (feq (by rcases hdd1 with rfl | rfl <;> decide)).1 ?_
    refine XS.aloadN X42.here hx rfl (hb hby d5_28) rfl rfl ?_
    show Steps _ _ _ (T42.setTop (mkF m 29 #[.val (.ref r), .val (.ref b1), .val (.int 1)] [(.ref r)])) _
    refine st45 _ ?_
    refine XS.iloadN X45.here hx rfl (hb hby d5_32) rfl  ?_
    show Steps _ _ _ (T45.setTop (mkF m 33 #[.val (.ref r), .val (.ref b1), .val (.int 1)] [(.int 1), (.ref ia)])) _
    refine X45.iaload hx (j := (1 : Int32)) (v := (.int d1)) (by rw [e45]; exact Arc46.1) (State.isArrayOf_alike hZ.alike Arc46.2.1) Arc46.2.2 hinc46 hatc46 (g := (mkF m 33 #[.val (.ref r), .val (.ref b1), .val (.int 1)] [(.int 1), (.ref ia)])) rfl rfl (hb hby d5_33) _ ?_
    refine XS.bipush X45.here hx rfl (hb hby d5_34) ?_
    refine XS.icmpYes X45.here hx rfl (pc0 := 36) (pc' := 51) rfl (hb hby d5_36) rfl (feq (by rcases hdd1 with rfl | rfl <;> decide)).2 (by decide) (by decide) ?_
    refine XS.aloadN X45.here hx rfl (hb hby d5_51) rfl rfl ?_
    refine XS.bipush X45.here hx rfl (hb hby d5_52) ?_
    show Steps _ _ _ (T45.setTop (mkF m 54 #[.val (.ref r), .val (.ref b1), .val (.int 1)] [(.int 47), (.ref b1)])) _
    refine st48.trans ?_
    refine XS.pop X48.here hx rfl (hb hby d5_57) rfl rfl ?_
    refine XS.aloadN X48.here hx rfl (hb hby d5_58) rfl rfl ?_
    show Steps _ _ _ (T48.setTop (mkF m 59 #[.val (.ref r), .val (.ref b1), .val (.int 1)] [(.ref r)])) _
    refine st52 _ ?_
    refine XS.iloadN X52.here hx rfl (hb hby d5_62) rfl  ?_
    show Steps _ _ _ (T52.setTop (mkF m 63 #[.val (.ref r), .val (.ref b1), .val (.int 1)] [(.int 1), (.ref ia)])) _
    refine X52.iaload hx (j := (1 : Int32)) (v := (.int d1)) (by rw [e52]; exact Arc54.1) (State.isArrayOf_alike hZ.alike Arc54.2.1) Arc54.2.2 hinc54 hatc54 (g := (mkF m 63 #[.val (.ref r), .val (.ref b1), .val (.int 1)] [(.int 1), (.ref ia)])) rfl rfl (hb hby d5_63) _ ?_
    refine XS.bipush X52.here hx rfl (hb hby d5_64) ?_
    refine XS.icmpNo X52.here hx rfl (hb hby d5_66) rfl (feq (by rcases hdd1 with rfl | rfl <;> decide)).1 ?_
    refine XS.aloadN X52.here hx rfl (hb hby d5_69) rfl rfl ?_
    refine XS.aloadN X52.here hx rfl (hb hby d5_70) rfl rfl ?_
    show Steps _ _ _ (T52.setTop (mkF m 71 #[.val (.ref r), .val (.ref b1), .val (.int 1)] [(.ref r), (.ref b1)])) _
    refine st55 _ ?_
    refine XS.iloadN X55.here hx rfl (hb hby d5_74) rfl  ?_
    show Steps _ _ _ (T55.setTop (mkF m 75 #[.val (.ref r), .val (.ref b1), .val (.int 1)] [(.int 1), (.ref ia), (.ref b1)])) _
    refine X55.iaload hx (j := (1 : Int32)) (v := (.int d1)) (by rw [e55]; exact Arc56.1) (State.isArrayOf_alike hZ.alike Arc56.2.1) Arc56.2.2 hinc56 hatc56 (g := (mkF m 75 #[.val (.ref r), .val (.ref b1), .val (.int 1)] [(.int 1), (.ref ia), (.ref b1)])) rfl rfl (hb hby d5_75) _ ?_
    show Steps _ _ _ (T55.setTop (mkF m 76 #[.val (.ref r), .val (.ref b1), .val (.int 1)] [(.int d1), (.ref b1)])) _
    refine st58.trans ?_
    refine XS.pop X58.here hx rfl (hb hby d5_79) rfl rfl ?_
    refine XS.goto X58.here hx rfl (pc0 := 80) (pc' := 108) rfl (hb hby d5_80) (by decide) (by decide) ?_
    refine XS.iinc X58.here hx rfl (hb hby d5_108) rfl (l' := #[.val (.ref r), .val (.ref b1), .val (.int ((1 : Int32) + (1 : Int32)))]) rfl ?_
    show Steps _ _ _ (T58.setTop (mkF m 111 #[.val (.ref r), .val (.ref b1), .val (.int ((1 : Int32) + (1 : Int32)))] [])) _
    rw [show ((1 : Int32) + (1 : Int32)) = (2 : Int32) from by decide]
    show Steps _ _ _ (T58.setTop (mkF m 111 #[.val (.ref r), .val (.ref b1), .val (.int 2)] [])) _
    refine XS.goto X58.here hx rfl (pc0 := 111) (pc' := 10) rfl (hb hby d5_111) (by decide) (by decide) ?_
    refine XS.iloadN X58.here hx rfl (hb hby d5_10) rfl  ?_
    refine XS.aloadN X58.here hx rfl (hb hby d5_11) rfl rfl ?_
    show Steps _ _ _ (T58.setTop (mkF m 12 #[.val (.ref r), .val (.ref b1), .val (.int 2)] [(.ref r), (.int 2)])) _
    refine st62 _ ?_
    refine XS.icmpYes X62.here hx rfl (pc0 := 15) (pc' := 114) rfl (hb hby d5_15) rfl (flt (by decide)).2.1 (by decide) (by decide) ?_
    refine XS.aloadN X62.here hx rfl (hb hby d5_114) rfl rfl ?_
    show Steps _ _ _ (T62.setTop (mkF m 115 #[.val (.ref r), .val (.ref b1), .val (.int 2)] [(.ref b1)])) _
    refine st64.trans ?_
    show Steps _ _ _ (T64.setTop (mkF m 118 #[.val (.ref r), .val (.ref b1), .val (.int 2)] [(.ref sa_65)])) _
    jvm_step X64.here [X64.here.top, hx, (hb hby d5_118), X64.method', Bd.returns, Value.isRef, FieldType.isReference]
    first | (intro acts; rw [hrZ _ acts rfl rfl rfl]) | rw [hrZ _ _ rfl rfl rfl]
    exact Steps.refl _
  · show Q5_2 Z r ka ia kk ki cs da cd d0 d1 bz0 bz1 h0 n0 _ T64.heap _
    exact ⟨sa_65, vb_66, kb_67, rfl, N64, K69, u64_0, sz_sa_65, u64_2, sz_vb_66, f64_0, f64_1, f64_2, f64_3⟩
theorem d20_0 : decode jdk_43_method_13_code 0 = .ok (.aload_n 0, 1) := by decide +kernel
theorem d20_1 : decode jdk_43_method_13_code 1 = .ok (.arraylength, 1) := by decide +kernel
theorem d20_2 : decode jdk_43_method_13_code 2 = .ok (.aload_n 1, 1) := by decide +kernel
theorem d20_3 : decode jdk_43_method_13_code 3 = .ok (.arraylength, 1) := by decide +kernel
theorem d20_4 : decode jdk_43_method_13_code 4 = .ok (.if_icmp .ne 30, 3) := by decide +kernel
theorem d20_7 : decode jdk_43_method_13_code 7 = .ok (.iconst 0, 1) := by decide +kernel
theorem d20_8 : decode jdk_43_method_13_code 8 = .ok (.istore_n 2, 1) := by decide +kernel
theorem d20_9 : decode jdk_43_method_13_code 9 = .ok (.iload_n 2, 1) := by decide +kernel
theorem d20_10 : decode jdk_43_method_13_code 10 = .ok (.aload_n 0, 1) := by decide +kernel
theorem d20_11 : decode jdk_43_method_13_code 11 = .ok (.arraylength, 1) := by decide +kernel
theorem d20_12 : decode jdk_43_method_13_code 12 = .ok (.if_icmp .ge 20, 3) := by decide +kernel
theorem d20_32 : decode jdk_43_method_13_code 32 = .ok (.iconst 1, 1) := by decide +kernel
theorem d20_33 : decode jdk_43_method_13_code 33 = .ok (.ireturn, 1) := by decide +kernel
theorem ef20n0 (m : MethodId) (va : Addr) (vb : Addr) : entryFrame m #[(.ref va), (.ref vb)] 3 = mkF m 0 #[.val (.ref va), .val (.ref vb), .unset] [] := by first | (simp [entryFrame, mkF, argsToLocals, Value.category]; done) | rfl
def Q20n0 (Z : State) (va : Addr) (vb : Addr) (kv : ClassId) (kb : ClassId) (h0 : Heap) (n0 : Nat) (v : Option Value) (h : Heap) (L : List Loc) : Prop := v = some (.int 1) ∧ Fr n0 L ∧ h = h0
theorem rm20n0 (l : Launch) (Z : State) (a0 : Array Value) (hw : ∀ d ∈ tables_1, d.before a0 Z = true) (ws : List Jvm.Cond) (va : Addr) (vb : Addr) (kv : ClassId) (kb : ClassId) (h0 : Heap) (n0 : Nat) (Z0 : n0 ≤ h0.size) (Vx1 : Arv Z h0 va kv .byte (0 : Int32) [] (.int 0)) (Vx2 : Arv Z h0 vb kb .byte (0 : Int32) [] (.int 0)) :
    MetFree l oM29 (head1 (Jvm.Cond.code oM29 jdk_43_method_13_code 3 (some .boolean) :: ws) oR1) (fun a U => a = #[(.ref va), (.ref vb)] ∧ Z.Warmed39 U.vm ∧ U.heap = h0) (fun _ _ _ _ _ => True) (fun _ U o U' => ∃ v L, o = .returned v ∧ Q20n0 Z va vb kv kb h0 n0 v U'.heap L ∧ FrameEnd U o U' L oR1.cells oR1.slots) := by
  refine MetFree.of_bodySF (plainFor_of_name pn5) hisR ?_
  intro p e s m args below meth c s₁ Bd hml0 hP hK
  obtain ⟨rfl, hZ, hh⟩ := hP
  have hx := Bd.exec
  have hby := Bd.bytes
  have hml : c.maxLocals = 3 := hml0
  have hown : s.vm.findClass "java/lang/StringLatin1" = some m.cls := findClass_of_methodNamed Bd.named
  have hnm := (name_of_methodNamed Bd.named Bd.method).1
  have X0 : Stand p l e oR1 s m #[(.ref va), (.ref vb)] below meth c s₁ [] 0 0 := Stand.of_body Bd
  have e0 : s₁.heap = h0 := by rw [← hh, Bd.state]; rfl
  have N0 := Fr.nil n0
  have pre0 : ∀ tZ, Steps p.tables e below (s₁.setTop (mkF m 0 #[.val (.ref va), .val (.ref vb), .unset] [])) tZ → Steps p.tables e below (s₁.setTop (entryFrame m #[(.ref va), (.ref vb)] 3)) tZ := fun tZ kZ => castTop (ef20n0 m va vb) kZ
  obtain ⟨c1, Arc1, -, Sc1, Mc1, -, -⟩ := id Vx1
  obtain ⟨c2, Arc2, -, Sc2, Mc2, -, -⟩ := id Vx2
  obtain ⟨c3, Arc3, -, Sc3, Mc3, -, -⟩ := id Vx1
  obtain ⟨fsZ, hrZ, hrun, hended, hW, hsame⟩ := X0.leave (v := some (.int 1)) (fun h => by rw [Bd.returns] at h; cases h)
  refine ⟨_, _, pre0 _ ?_, hrun, hended, _, _, rfl, ?_, ⟨_, rfl⟩, hW, hsame.mono (by decide) (by decide)⟩
  · show Steps _ _ _ (s₁.setTop (mkF m 0 #[.val (.ref va), .val (.ref vb), .unset] [])) _
    refine XS.aloadN X0.here hx rfl (hb hby d20_0) rfl rfl ?_
    show Steps _ _ _ (s₁.setTop (mkF m 1 #[.val (.ref va), .val (.ref vb), .unset] [(.ref va)])) _
    refine X0.arraylength hx (by rw [e0]; exact Arc1.1) (State.isArrayOf_alike hZ.alike Arc1.2.1) (g := (mkF m 1 #[.val (.ref va), .val (.ref vb), .unset] [(.ref va)])) rfl rfl (hb hby d20_1) _ ?_
    rw [len_of Sc1 Mc1]
    show Steps _ _ _ (s₁.setTop (mkF m 2 #[.val (.ref va), .val (.ref vb), .unset] [(.int 0)])) _
    refine XS.aloadN X0.here hx rfl (hb hby d20_2) rfl rfl ?_
    show Steps _ _ _ (s₁.setTop (mkF m 3 #[.val (.ref va), .val (.ref vb), .unset] [(.ref vb), (.int 0)])) _
    refine X0.arraylength hx (by rw [e0]; exact Arc2.1) (State.isArrayOf_alike hZ.alike Arc2.2.1) (g := (mkF m 3 #[.val (.ref va), .val (.ref vb), .unset] [(.ref vb), (.int 0)])) rfl rfl (hb hby d20_3) _ ?_
    rw [len_of Sc2 Mc2]
    show Steps _ _ _ (s₁.setTop (mkF m 4 #[.val (.ref va), .val (.ref vb), .unset] [(.int 0), (.int 0)])) _
    refine XS.icmpNo X0.here hx rfl (hb hby d20_4) rfl (teq (by decide)).2 ?_
    refine XS.iconst X0.here hx rfl (hb hby d20_7) ?_
    refine XS.istoreN X0.here hx rfl (hb hby d20_8) rfl (l' := #[.val (.ref va), .val (.ref vb), .val (.int 0)]) rfl ?_
    refine XS.iloadN X0.here hx rfl (hb hby d20_9) rfl  ?_
    refine XS.aloadN X0.here hx rfl (hb hby d20_10) rfl rfl ?_
    show Steps _ _ _ (s₁.setTop (mkF m 11 #[.val (.ref va), .val (.ref vb), .val (.int 0)] [(.ref va), (.int 0)])) _
    refine X0.arraylength hx (by rw [e0]; exact Arc3.1) (State.isArrayOf_alike hZ.alike Arc3.2.1) (g := (mkF m 11 #[.val (.ref va), .val (.ref vb), .val (.int 0)] [(.ref va), (.int 0)])) rfl rfl (hb hby d20_11) _ ?_
    rw [len_of Sc3 Mc3]
    show Steps _ _ _ (s₁.setTop (mkF m 12 #[.val (.ref va), .val (.ref vb), .val (.int 0)] [(.int 0), (.int 0)])) _
    refine XS.icmpYes X0.here hx rfl (pc0 := 12) (pc' := 32) rfl (hb hby d20_12) rfl (flt (by decide)).2.1 (by decide) (by decide) ?_
    refine XS.iconst X0.here hx rfl (hb hby d20_32) ?_
    show Steps _ _ _ (s₁.setTop (mkF m 33 #[.val (.ref va), .val (.ref vb), .val (.int 0)] [(.int 1)])) _
    exact retN X0 hx (t := .boolean) Bd.returns (by simp) (hb hby d20_33) hrZ
  · show Q20n0 Z va vb kv kb h0 n0 _ s₁.heap _
    rw [e0]
    exact ⟨rfl, N0, rfl⟩
theorem d19_0 : decode jdk_42_method_66_code 0 = .ok (.aload_n 0, 1) := by decide +kernel
theorem d19_1 : decode jdk_42_method_66_code 1 = .ok (.aload_n 1, 1) := by decide +kernel
theorem d19_2 : decode jdk_42_method_66_code 2 = .ok (.if_acmp .ne 5, 3) := by decide +kernel
theorem d19_7 : decode jdk_42_method_66_code 7 = .ok (.aload_n 1, 1) := by decide +kernel
theorem d19_8 : decode jdk_42_method_66_code 8 = .ok (.instanceof 10, 3) := by decide +kernel
theorem d19_11 : decode jdk_42_method_66_code 11 = .ok (.ifCond .eq 43, 3) := by decide +kernel
theorem d19_14 : decode jdk_42_method_66_code 14 = .ok (.aload_n 1, 1) := by decide +kernel
theorem d19_15 : decode jdk_42_method_66_code 15 = .ok (.checkcast 10, 3) := by decide +kernel
theorem d19_18 : decode jdk_42_method_66_code 18 = .ok (.astore_n 2, 1) := by decide +kernel
theorem d19_19 : decode jdk_42_method_66_code 19 = .ok (.getstatic 38, 3) := by decide +kernel
theorem d19_22 : decode jdk_42_method_66_code 22 = .ok (.ifCond .eq 14, 3) := by decide +kernel
theorem d19_25 : decode jdk_42_method_66_code 25 = .ok (.aload_n 0, 1) := by decide +kernel
theorem d19_26 : decode jdk_42_method_66_code 26 = .ok (.getfield 15, 3) := by decide +kernel
theorem d19_29 : decode jdk_42_method_66_code 29 = .ok (.aload_n 2, 1) := by decide +kernel
theorem d19_30 : decode jdk_42_method_66_code 30 = .ok (.getfield 15, 3) := by decide +kernel
theorem d19_33 : decode jdk_42_method_66_code 33 = .ok (.if_icmp .ne 21, 3) := by decide +kernel
theorem d19_36 : decode jdk_42_method_66_code 36 = .ok (.aload_n 0, 1) := by decide +kernel
theorem d19_37 : decode jdk_42_method_66_code 37 = .ok (.getfield 9, 3) := by decide +kernel
theorem d19_40 : decode jdk_42_method_66_code 40 = .ok (.aload_n 2, 1) := by decide +kernel
theorem d19_41 : decode jdk_42_method_66_code 41 = .ok (.getfield 9, 3) := by decide +kernel
theorem d19_44 : decode jdk_42_method_66_code 44 = .ok (.invokestatic 541, 3) := by decide +kernel
theorem pd25 : parseMethodDescriptor "([B[B)Z" = some ⟨[(.array .byte), (.array .byte)], some .boolean⟩ := by decide +kernel
theorem d19_47 : decode jdk_42_method_66_code 47 = .ok (.ifCond .eq 7, 3) := by decide +kernel
theorem d19_50 : decode jdk_42_method_66_code 50 = .ok (.iconst 1, 1) := by decide +kernel
theorem d19_51 : decode jdk_42_method_66_code 51 = .ok (.goto 4, 3) := by decide +kernel
theorem d19_55 : decode jdk_42_method_66_code 55 = .ok (.ireturn, 1) := by decide +kernel
theorem ef19n0 (m : MethodId) (a1 : Addr) (a2 : Addr) : entryFrame m #[(.ref a1), (.ref a2)] 3 = mkF m 0 #[.val (.ref a1), .val (.ref a2), .unset] [] := by first | (simp [entryFrame, mkF, argsToLocals, Value.category]; done) | rfl
def Q19n0 (Z : State) (a1 : Addr) (a2 : Addr) (va : Addr) (kv : ClassId) (vb : Addr) (kb : ClassId) (cs : Int32) (h0 : Heap) (n0 : Nat) (v : Option Value) (h : Heap) (L : List Loc) : Prop := v = some (.int 1) ∧ Fr n0 L ∧ h = h0
theorem rm19n0 (l : Launch) (Z : State) (a0 : Array Value) (hw : ∀ d ∈ tables_1, d.before a0 Z = true) (ws : List Jvm.Cond) (a1 : Addr) (a2 : Addr) (va : Addr) (kv : ClassId) (vb : Addr) (kb : ClassId) (cs : Int32) (h0 : Heap) (n0 : Nat) (Z0 : n0 ≤ h0.size) (F0 : Exa Z h0 a1 oS) (F1 : Fld Z h0 a1 oS "coder" "B" (.int 0)) (F2 : Fld Z h0 a1 oS "value" "[B" (.ref va)) (F3 : Arv Z h0 va kv .byte (0 : Int32) [] (.int 0)) (G0 : Exa Z h0 a2 oS) (G1 : Fld Z h0 a2 oS "coder" "B" (.int 0)) (G2 : Fld Z h0 a2 oS "value" "[B" (.ref vb)) (G3 : Arv Z h0 vb kb .byte (0 : Int32) [] (.int 0)) (nx1 : a1 ≠ a2) (Cs : Sta Z Z.heap oS "COMPACT_STRINGS" "Z" (.int cs)) (hcs : ¬ (cs = (0 : Int32))) (Ox : Old Z n0 h0) :
    MetFree l oM30 (head1 (Jvm.Cond.code oM30 jdk_42_method_66_code 3 (some .boolean) :: ws) oR6) (fun a U => a = #[(.ref a1), (.ref a2)] ∧ Z.Warmed39 U.vm ∧ U.heap = h0) (fun _ _ _ _ _ => True) (fun _ U o U' => ∃ v L, o = .returned v ∧ Q19n0 Z a1 a2 va kv vb kb cs h0 n0 v U'.heap L ∧ FrameEnd U o U' L oR6.cells oR6.slots) := by
  refine MetFree.of_bodySF (plainFor_of_name pn17) hisR ?_
  intro p e s m args below meth c s₁ Bd hml0 hP hK
  obtain ⟨rfl, hZ, hh⟩ := hP
  have hx := Bd.exec
  have hby := Bd.bytes
  have hml : c.maxLocals = 3 := hml0
  have hown : s.vm.findClass oS = some m.cls := findClass_of_methodNamed Bd.named
  have hnm := (name_of_methodNamed Bd.named Bd.method).1
  have X0 : Stand p l e oR6 s m #[(.ref a1), (.ref a2)] below meth c s₁ [] 0 0 := Stand.of_body Bd
  have e0 : s₁.heap = h0 := by rw [← hh, Bd.state]; rfl
  have N0 := Fr.nil n0
  have pre0 : ∀ tZ, Steps p.tables e below (s₁.setTop (mkF m 0 #[.val (.ref a1), .val (.ref a2), .unset] [])) tZ → Steps p.tables e below (s₁.setTop (entryFrame m #[(.ref a1), (.ref a2)] 3)) tZ := fun tZ kZ => castTop (ef19n0 m a1 a2) kZ
  obtain ⟨T1, X1, e1, st1⟩ := instY X0 hx hZ hown (ow hw 119 rfl) e0 (Ins.self G0) (g := (mkF m 8 #[.val (.ref a1), .val (.ref a2), .unset] [(.ref a2)])) rfl rfl (hb hby d19_8)
  obtain ⟨T2, X2, e2, st2⟩ := castY X1 hx hZ hown (ow hw 119 rfl) e1 (Ins.self G0) (g := (mkF m 15 #[.val (.ref a1), .val (.ref a2), .unset] [(.ref a2)])) rfl rfl (hb hby d19_15)
  obtain ⟨T3, X3, e3, st3⟩ := getS2 X2 hx hZ hown (host := "") (Or.inl (ow hw 120 rfl)) Via.refl e2 (Cs.ext Ox.2) (g := (mkF m 19 #[.val (.ref a1), .val (.ref a2), .val (.ref a2)] [])) rfl (hb hby d19_19)
  obtain ⟨T4, X4, e4, st4⟩ := getF X3 hx hZ hown (host := "") (Or.inl (ow hw 94 rfl)) Via.refl e3 F1 (g := (mkF m 26 #[.val (.ref a1), .val (.ref a2), .val (.ref a2)] [(.ref a1)])) rfl rfl (hb hby d19_26)
  obtain ⟨T5, X5, e5, st5⟩ := getF X4 hx hZ hown (host := "") (Or.inl (ow hw 94 rfl)) Via.refl e4 G1 (g := (mkF m 30 #[.val (.ref a1), .val (.ref a2), .val (.ref a2)] [(.ref a2), (.int 0)])) rfl rfl (hb hby d19_30)
  obtain ⟨T6, X6, e6, st6⟩ := getF X5 hx hZ hown (host := "") (Or.inl (ow hw 113 rfl)) Via.refl e5 F2 (g := (mkF m 37 #[.val (.ref a1), .val (.ref a2), .val (.ref a2)] [(.ref a1)])) rfl rfl (hb hby d19_37)
  obtain ⟨T7, X7, e7, st7⟩ := getF X6 hx hZ hown (host := "") (Or.inl (ow hw 113 rfl)) Via.refl e6 G2 (g := (mkF m 41 #[.val (.ref a1), .val (.ref a2), .val (.ref a2)] [(.ref a2), (.ref va)])) rfl rfl (hb hby d19_41)
  obtain ⟨_, _, ⟨T8, L8, k8, n8⟩, -, X8, ⟨Lc8, hQ8, l8, y8, z8⟩, st8⟩ := Jvm.LawKit.callS X7 hx (y := oM29) hown (mvT hZ (ow hw 121 rfl)) (mvT hZ (ow hw 122 rfl)) (mvT hZ (ow hw 123 rfl)) (mvT hZ (ow hw 124 rfl)) (by decide) (backOf (W := 0) (rm20n0 l Z a0 hw [] va vb kv kb h0 n0 Z0 F3 G3) hZ (ow hw 124 rfl) (ow hw 123 rfl) (by decide) (by decide)) (g := (mkF m 44 #[.val (.ref a1), .val (.ref a2), .val (.ref a2)] [(.ref vb), (.ref va)])) rfl (by rw [hml]; rfl) (argsL := [(.ref va), (.ref vb)]) (rest := []) (lenOf pd25 rfl) rfl (Nat.le_of_eq rfl) (hb hby d19_44) (fun _ _ => ⟨rfl, e7, (by decide : 0 + 0 ≤ _), (by decide : 0 + 0 ≤ _)⟩)
  dsimp only [Pt.U, Pt.locs, Pt.cells, Pt.slots] at X8 l8 y8 z8 st8 hQ8
  subst l8 y8 z8
  obtain ⟨rfl, N8q, e8⟩ := hQ8
  have N8 := Fr.app N0 N8q
  obtain ⟨fsZ, hrZ, hrun, hended, hW, hsame⟩ := X8.leave (v := some (.int 1)) (fun h => by rw [Bd.returns] at h; cases h)
  refine ⟨_, _, pre0 _ ?_, hrun, hended, _, _, rfl, ?_, ⟨_, rfl⟩, hW, hsame.mono (by decide) (by decide)⟩
  · show Steps _ _ _ (s₁.setTop (mkF m 0 #[.val (.ref a1), .val (.ref a2), .unset] [])) _
    refine XS.aloadN X0.here hx rfl (hb hby d19_0) rfl rfl ?_
    refine XS.aloadN X0.here hx rfl (hb hby d19_1) rfl rfl ?_
    show Steps _ _ _ (s₁.setTop (mkF m 2 #[.val (.ref a1), .val (.ref a2), .unset] [(.ref a2), (.ref a1)])) _
    refine Jvm.RoadKit.acmp (g := (mkF m 2 #[.val (.ref a1), .val (.ref a2), .unset] [(.ref a2), (.ref a1)])) X0 hx rfl rfl rfl (pc0 := 2) (pc' := 7) (same := false) rfl (hb hby d19_2) rfl (decide_eq_false fun q => nx1 (Value.ref.inj q)) (by decide) (by decide) ?_
    refine XS.aloadN X0.here hx rfl (hb hby d19_7) rfl rfl ?_
    show Steps _ _ _ (s₁.setTop (mkF m 8 #[.val (.ref a1), .val (.ref a2), .unset] [(.ref a2)])) _
    refine st1 _ ?_
    refine XS.ifNo X1.here hx rfl (hb hby d19_11) rfl ((if0 _ _).trans (feq (by decide)).1) ?_
    refine XS.aloadN X1.here hx rfl (hb hby d19_14) rfl rfl ?_
    show Steps _ _ _ (T1.setTop (mkF m 15 #[.val (.ref a1), .val (.ref a2), .unset] [(.ref a2)])) _
    refine st2 _ ?_
    refine XS.astoreN X2.here hx rfl (hb hby d19_18) rfl rfl (l' := #[.val (.ref a1), .val (.ref a2), .val (.ref a2)]) rfl ?_
    show Steps _ _ _ (T2.setTop (mkF m 19 #[.val (.ref a1), .val (.ref a2), .val (.ref a2)] [])) _
    refine st3 _ ?_
    refine XS.ifNo X3.here hx rfl (hb hby d19_22) rfl ((if0 _ _).trans (feq hcs).1) ?_
    refine XS.aloadN X3.here hx rfl (hb hby d19_25) rfl rfl ?_
    show Steps _ _ _ (T3.setTop (mkF m 26 #[.val (.ref a1), .val (.ref a2), .val (.ref a2)] [(.ref a1)])) _
    refine st4 _ ?_
    refine XS.aloadN X4.here hx rfl (hb hby d19_29) rfl rfl ?_
    show Steps _ _ _ (T4.setTop (mkF m 30 #[.val (.ref a1), .val (.ref a2), .val (.ref a2)] [(.ref a2), (.int 0)])) _
    refine st5 _ ?_
    refine XS.icmpNo X5.here hx rfl (hb hby d19_33) rfl (teq (by decide)).2 ?_
    refine XS.aloadN X5.here hx rfl (hb hby d19_36) rfl rfl ?_
    show Steps _ _ _ (T5.setTop (mkF m 37 #[.val (.ref a1), .val (.ref a2), .val (.ref a2)] [(.ref a1)])) _
    refine st6 _ ?_
    refine XS.aloadN X6.here hx rfl (hb hby d19_40) rfl rfl ?_
    show Steps _ _ _ (T6.setTop (mkF m 41 #[.val (.ref a1), .val (.ref a2), .val (.ref a2)] [(.ref a2), (.ref va)])) _
    refine st7 _ ?_
    show Steps _ _ _ (T7.setTop (mkF m 44 #[.val (.ref a1), .val (.ref a2), .val (.ref a2)] [(.ref vb), (.ref va)])) _
    refine st8 _ ?_
    refine XS.ifNo X8.here hx rfl (hb hby d19_47) rfl ((if0 _ _).trans (feq (by decide)).1) ?_
    refine XS.iconst X8.here hx rfl (hb hby d19_50) ?_
    refine XS.goto X8.here hx rfl (pc0 := 51) (pc' := 55) rfl (hb hby d19_51) (by decide) (by decide) ?_
    show Steps _ _ _ (T8.setTop (mkF m 55 #[.val (.ref a1), .val (.ref a2), .val (.ref a2)] [(.int 1)])) _
    exact retN X8 hx (t := .boolean) Bd.returns (by simp) (hb hby d19_55) hrZ
  · show Q19n0 Z a1 a2 va kv vb kb cs h0 n0 _ T8.heap _
    rw [e8]
    exact ⟨rfl, N8, rfl⟩
theorem d20_15 : decode jdk_43_method_13_code 15 = .ok (.aload_n 0, 1) := by decide +kernel
theorem d20_16 : decode jdk_43_method_13_code 16 = .ok (.iload_n 2, 1) := by decide +kernel
theorem d20_17 : decode jdk_43_method_13_code 17 = .ok (.baload, 1) := by decide +kernel
theorem d20_18 : decode jdk_43_method_13_code 18 = .ok (.aload_n 1, 1) := by decide +kernel
theorem d20_19 : decode jdk_43_method_13_code 19 = .ok (.iload_n 2, 1) := by decide +kernel
theorem d20_20 : decode jdk_43_method_13_code 20 = .ok (.baload, 1) := by decide +kernel
theorem d20_21 : decode jdk_43_method_13_code 21 = .ok (.if_icmp .eq 5, 3) := by decide +kernel
theorem d20_26 : decode jdk_43_method_13_code 26 = .ok (.iinc 2 1, 3) := by decide +kernel
theorem d20_29 : decode jdk_43_method_13_code 29 = .ok (.goto (-20), 3) := by decide +kernel
theorem ef20n2 (m : MethodId) (va : Addr) (vb : Addr) : entryFrame m #[(.ref va), (.ref vb)] 3 = mkF m 0 #[.val (.ref va), .val (.ref vb), .unset] [] := by first | (simp [entryFrame, mkF, argsToLocals, Value.category]; done) | rfl
def Q20n2 (Z : State) (va : Addr) (vb : Addr) (kv : ClassId) (kb : ClassId) (y0 : Int32) (y1 : Int32) (h0 : Heap) (n0 : Nat) (v : Option Value) (h : Heap) (L : List Loc) : Prop := v = some (.int 1) ∧ Fr n0 L ∧ h = h0
theorem rm20n2 (l : Launch) (Z : State) (a0 : Array Value) (hw : ∀ d ∈ tables_1, d.before a0 Z = true) (ws : List Jvm.Cond) (va : Addr) (vb : Addr) (kv : ClassId) (kb : ClassId) (y0 : Int32) (y1 : Int32) (h0 : Heap) (n0 : Nat) (Z0 : n0 ≤ h0.size) (Vx1 : Arv Z h0 va kv .byte (2 : Int32) [(.int y0), (.int y1)] (.int 0)) (Vx2 : Arv Z h0 vb kb .byte (2 : Int32) [(.int y0), (.int y1)] (.int 0)) :
    MetFree l oM29 (head1 (Jvm.Cond.code oM29 jdk_43_method_13_code 3 (some .boolean) :: ws) oR1) (fun a U => a = #[(.ref va), (.ref vb)] ∧ Z.Warmed39 U.vm ∧ U.heap = h0) (fun _ _ _ _ _ => True) (fun _ U o U' => ∃ v L, o = .returned v ∧ Q20n2 Z va vb kv kb y0 y1 h0 n0 v U'.heap L ∧ FrameEnd U o U' L oR1.cells oR1.slots) := by
  refine MetFree.of_bodySF (plainFor_of_name pn5) hisR ?_
  intro p e s m args below meth c s₁ Bd hml0 hP hK
  obtain ⟨rfl, hZ, hh⟩ := hP
  have hx := Bd.exec
  have hby := Bd.bytes
  have hml : c.maxLocals = 3 := hml0
  have hown : s.vm.findClass "java/lang/StringLatin1" = some m.cls := findClass_of_methodNamed Bd.named
  have hnm := (name_of_methodNamed Bd.named Bd.method).1
  have X0 : Stand p l e oR1 s m #[(.ref va), (.ref vb)] below meth c s₁ [] 0 0 := Stand.of_body Bd
  have e0 : s₁.heap = h0 := by rw [← hh, Bd.state]; rfl
  have N0 := Fr.nil n0
  have pre0 : ∀ tZ, Steps p.tables e below (s₁.setTop (mkF m 0 #[.val (.ref va), .val (.ref vb), .unset] [])) tZ → Steps p.tables e below (s₁.setTop (entryFrame m #[(.ref va), (.ref vb)] 3)) tZ := fun tZ kZ => castTop (ef20n2 m va vb) kZ
  obtain ⟨c1, Arc1, -, Sc1, Mc1, -, -⟩ := id Vx1
  obtain ⟨c2, Arc2, -, Sc2, Mc2, -, -⟩ := id Vx2
  obtain ⟨c3, Arc3, -, Sc3, Mc3, -, -⟩ := id Vx1
  obtain ⟨c4, Arc4, qc4, Sc4, Mc4, Hc4, Gc4⟩ := id Vx1
  have hinc4 : ¬ ((0 : Int32) < 0 ∨ c4.slots.size ≤ ((0 : Int32)).toNatClampNeg) := inb_of Sc4 ⟨by decide, by decide⟩
  have hatc4 : c4.slots[((0 : Int32)).toNatClampNeg]? = some (.int y0) := Hc4.at hinc4 rfl
  obtain ⟨c5, Arc5, qc5, Sc5, Mc5, Hc5, Gc5⟩ := id Vx2
  have hinc5 : ¬ ((0 : Int32) < 0 ∨ c5.slots.size ≤ ((0 : Int32)).toNatClampNeg) := inb_of Sc5 ⟨by decide, by decide⟩
  have hatc5 : c5.slots[((0 : Int32)).toNatClampNeg]? = some (.int y0) := Hc5.at hinc5 rfl
  obtain ⟨c6, Arc6, -, Sc6, Mc6, -, -⟩ := id Vx1
  obtain ⟨c7, Arc7, qc7, Sc7, Mc7, Hc7, Gc7⟩ := id Vx1
  have hinc7 : ¬ ((1 : Int32) < 0 ∨ c7.slots.size ≤ ((1 : Int32)).toNatClampNeg) := inb_of Sc7 ⟨by decide, by decide⟩
  have hatc7 : c7.slots[((1 : Int32)).toNatClampNeg]? = some (.int y1) := Hc7.at hinc7 rfl
  obtain ⟨c8, Arc8, qc8, Sc8, Mc8, Hc8, Gc8⟩ := id Vx2
  have hinc8 : ¬ ((1 : Int32) < 0 ∨ c8.slots.size ≤ ((1 : Int32)).toNatClampNeg) := inb_of Sc8 ⟨by decide, by decide⟩
  have hatc8 : c8.slots[((1 : Int32)).toNatClampNeg]? = some (.int y1) := Hc8.at hinc8 rfl
  obtain ⟨c9, Arc9, -, Sc9, Mc9, -, -⟩ := id Vx1
  obtain ⟨fsZ, hrZ, hrun, hended, hW, hsame⟩ := X0.leave (v := some (.int 1)) (fun h => by rw [Bd.returns] at h; cases h)
  refine ⟨_, _, pre0 _ ?_, hrun, hended, _, _, rfl, ?_, ⟨_, rfl⟩, hW, hsame.mono (by decide) (by decide)⟩
  · show Steps _ _ _ (s₁.setTop (mkF m 0 #[.val (.ref va), .val (.ref vb), .unset] [])) _
    refine XS.aloadN X0.here hx rfl (hb hby d20_0) rfl rfl ?_
    show Steps _ _ _ (s₁.setTop (mkF m 1 #[.val (.ref va), .val (.ref vb), .unset] [(.ref va)])) _
    refine X0.arraylength hx (by rw [e0]; exact Arc1.1) (State.isArrayOf_alike hZ.alike Arc1.2.1) (g := (mkF m 1 #[.val (.ref va), .val (.ref vb), .unset] [(.ref va)])) rfl rfl (hb hby d20_1) _ ?_
    rw [len_of Sc1 Mc1]
    show Steps _ _ _ (s₁.setTop (mkF m 2 #[.val (.ref va), .val (.ref vb), .unset] [(.int 2)])) _
    refine XS.aloadN X0.here hx rfl (hb hby d20_2) rfl rfl ?_
    show Steps _ _ _ (s₁.setTop (mkF m 3 #[.val (.ref va), .val (.ref vb), .unset] [(.ref vb), (.int 2)])) _
    refine X0.arraylength hx (by rw [e0]; exact Arc2.1) (State.isArrayOf_alike hZ.alike Arc2.2.1) (g := (mkF m 3 #[.val (.ref va), .val (.ref vb), .unset] [(.ref vb), (.int 2)])) rfl rfl (hb hby d20_3) _ ?_
    rw [len_of Sc2 Mc2]
    show Steps _ _ _ (s₁.setTop (mkF m 4 #[.val (.ref va), .val (.ref vb), .unset] [(.int 2), (.int 2)])) _
    refine XS.icmpNo X0.here hx rfl (hb hby d20_4) rfl (teq (by decide)).2 ?_
    refine XS.iconst X0.here hx rfl (hb hby d20_7) ?_
    refine XS.istoreN X0.here hx rfl (hb hby d20_8) rfl (l' := #[.val (.ref va), .val (.ref vb), .val (.int 0)]) rfl ?_
    refine XS.iloadN X0.here hx rfl (hb hby d20_9) rfl  ?_
    refine XS.aloadN X0.here hx rfl (hb hby d20_10) rfl rfl ?_
    show Steps _ _ _ (s₁.setTop (mkF m 11 #[.val (.ref va), .val (.ref vb), .val (.int 0)] [(.ref va), (.int 0)])) _
    refine X0.arraylength hx (by rw [e0]; exact Arc3.1) (State.isArrayOf_alike hZ.alike Arc3.2.1) (g := (mkF m 11 #[.val (.ref va), .val (.ref vb), .val (.int 0)] [(.ref va), (.int 0)])) rfl rfl (hb hby d20_11) _ ?_
    rw [len_of Sc3 Mc3]
    show Steps _ _ _ (s₁.setTop (mkF m 12 #[.val (.ref va), .val (.ref vb), .val (.int 0)] [(.int 2), (.int 0)])) _
    refine XS.icmpNo X0.here hx rfl (hb hby d20_12) rfl (tlt (by decide)).2.1 ?_
    refine XS.aloadN X0.here hx rfl (hb hby d20_15) rfl rfl ?_
    refine XS.iloadN X0.here hx rfl (hb hby d20_16) rfl  ?_
    show Steps _ _ _ (s₁.setTop (mkF m 17 #[.val (.ref va), .val (.ref vb), .val (.int 0)] [(.int 0), (.ref va)])) _
    refine X0.baloadBytes hx (j := (0 : Int32)) (v := (.int y0)) (by rw [e0]; exact Arc4.1) (State.isArrayOf_alike hZ.alike Arc4.2.1) Arc4.2.2 hinc4 hatc4 (g := (mkF m 17 #[.val (.ref va), .val (.ref vb), .val (.int 0)] [(.int 0), (.ref va)])) rfl rfl (hb hby d20_17) _ ?_
    refine XS.aloadN X0.here hx rfl (hb hby d20_18) rfl rfl ?_
    refine XS.iloadN X0.here hx rfl (hb hby d20_19) rfl  ?_
    show Steps _ _ _ (s₁.setTop (mkF m 20 #[.val (.ref va), .val (.ref vb), .val (.int 0)] [(.int 0), (.ref vb), (.int y0)])) _
    refine X0.baloadBytes hx (j := (0 : Int32)) (v := (.int y0)) (by rw [e0]; exact Arc5.1) (State.isArrayOf_alike hZ.alike Arc5.2.1) Arc5.2.2 hinc5 hatc5 (g := (mkF m 20 #[.val (.ref va), .val (.ref vb), .val (.int 0)] [(.int 0), (.ref vb), (.int y0)])) rfl rfl (hb hby d20_20) _ ?_
    refine XS.icmpYes X0.here hx rfl (pc0 := 21) (pc' := 26) rfl (hb hby d20_21) rfl (teq rfl).1 (by decide) (by decide) ?_
    refine XS.iinc X0.here hx rfl (hb hby d20_26) rfl (l' := #[.val (.ref va), .val (.ref vb), .val (.int ((0 : Int32) + (1 : Int32)))]) rfl ?_
    show Steps _ _ _ (s₁.setTop (mkF m 29 #[.val (.ref va), .val (.ref vb), .val (.int ((0 : Int32) + (1 : Int32)))] [])) _
    rw [show ((0 : Int32) + (1 : Int32)) = (1 : Int32) from by decide]
    show Steps _ _ _ (s₁.setTop (mkF m 29 #[.val (.ref va), .val (.ref vb), .val (.int 1)] [])) _
    refine XS.goto X0.here hx rfl (pc0 := 29) (pc' := 9) rfl (hb hby d20_29) (by decide) (by decide) ?_
    refine XS.iloadN X0.here hx rfl (hb hby d20_9) rfl  ?_
    refine XS.aloadN X0.here hx rfl (hb hby d20_10) rfl rfl ?_
    show Steps _ _ _ (s₁.setTop (mkF m 11 #[.val (.ref va), .val (.ref vb), .val (.int 1)] [(.ref va), (.int 1)])) _
    refine X0.arraylength hx (by rw [e0]; exact Arc6.1) (State.isArrayOf_alike hZ.alike Arc6.2.1) (g := (mkF m 11 #[.val (.ref va), .val (.ref vb), .val (.int 1)] [(.ref va), (.int 1)])) rfl rfl (hb hby d20_11) _ ?_
    rw [len_of Sc6 Mc6]
    show Steps _ _ _ (s₁.setTop (mkF m 12 #[.val (.ref va), .val (.ref vb), .val (.int 1)] [(.int 2), (.int 1)])) _
    refine XS.icmpNo X0.here hx rfl (hb hby d20_12) rfl (tlt (by decide)).2.1 ?_
    refine XS.aloadN X0.here hx rfl (hb hby d20_15) rfl rfl ?_
    refine XS.iloadN X0.here hx rfl (hb hby d20_16) rfl  ?_
    show Steps _ _ _ (s₁.setTop (mkF m 17 #[.val (.ref va), .val (.ref vb), .val (.int 1)] [(.int 1), (.ref va)])) _
    refine X0.baloadBytes hx (j := (1 : Int32)) (v := (.int y1)) (by rw [e0]; exact Arc7.1) (State.isArrayOf_alike hZ.alike Arc7.2.1) Arc7.2.2 hinc7 hatc7 (g := (mkF m 17 #[.val (.ref va), .val (.ref vb), .val (.int 1)] [(.int 1), (.ref va)])) rfl rfl (hb hby d20_17) _ ?_
    refine XS.aloadN X0.here hx rfl (hb hby d20_18) rfl rfl ?_
    refine XS.iloadN X0.here hx rfl (hb hby d20_19) rfl  ?_
    show Steps _ _ _ (s₁.setTop (mkF m 20 #[.val (.ref va), .val (.ref vb), .val (.int 1)] [(.int 1), (.ref vb), (.int y1)])) _
    refine X0.baloadBytes hx (j := (1 : Int32)) (v := (.int y1)) (by rw [e0]; exact Arc8.1) (State.isArrayOf_alike hZ.alike Arc8.2.1) Arc8.2.2 hinc8 hatc8 (g := (mkF m 20 #[.val (.ref va), .val (.ref vb), .val (.int 1)] [(.int 1), (.ref vb), (.int y1)])) rfl rfl (hb hby d20_20) _ ?_
    refine XS.icmpYes X0.here hx rfl (pc0 := 21) (pc' := 26) rfl (hb hby d20_21) rfl (teq rfl).1 (by decide) (by decide) ?_
    refine XS.iinc X0.here hx rfl (hb hby d20_26) rfl (l' := #[.val (.ref va), .val (.ref vb), .val (.int ((1 : Int32) + (1 : Int32)))]) rfl ?_
    show Steps _ _ _ (s₁.setTop (mkF m 29 #[.val (.ref va), .val (.ref vb), .val (.int ((1 : Int32) + (1 : Int32)))] [])) _
    rw [show ((1 : Int32) + (1 : Int32)) = (2 : Int32) from by decide]
    show Steps _ _ _ (s₁.setTop (mkF m 29 #[.val (.ref va), .val (.ref vb), .val (.int 2)] [])) _
    refine XS.goto X0.here hx rfl (pc0 := 29) (pc' := 9) rfl (hb hby d20_29) (by decide) (by decide) ?_
    refine XS.iloadN X0.here hx rfl (hb hby d20_9) rfl  ?_
    refine XS.aloadN X0.here hx rfl (hb hby d20_10) rfl rfl ?_
    show Steps _ _ _ (s₁.setTop (mkF m 11 #[.val (.ref va), .val (.ref vb), .val (.int 2)] [(.ref va), (.int 2)])) _
    refine X0.arraylength hx (by rw [e0]; exact Arc9.1) (State.isArrayOf_alike hZ.alike Arc9.2.1) (g := (mkF m 11 #[.val (.ref va), .val (.ref vb), .val (.int 2)] [(.ref va), (.int 2)])) rfl rfl (hb hby d20_11) _ ?_
    rw [len_of Sc9 Mc9]
    show Steps _ _ _ (s₁.setTop (mkF m 12 #[.val (.ref va), .val (.ref vb), .val (.int 2)] [(.int 2), (.int 2)])) _
    refine XS.icmpYes X0.here hx rfl (pc0 := 12) (pc' := 32) rfl (hb hby d20_12) rfl (flt (by decide)).2.1 (by decide) (by decide) ?_
    refine XS.iconst X0.here hx rfl (hb hby d20_32) ?_
    show Steps _ _ _ (s₁.setTop (mkF m 33 #[.val (.ref va), .val (.ref vb), .val (.int 2)] [(.int 1)])) _
    exact retN X0 hx (t := .boolean) Bd.returns (by simp) (hb hby d20_33) hrZ
  · show Q20n2 Z va vb kv kb y0 y1 h0 n0 _ s₁.heap _
    rw [e0]
    exact ⟨rfl, N0, rfl⟩
theorem ef19n2 (m : MethodId) (a1 : Addr) (a2 : Addr) : entryFrame m #[(.ref a1), (.ref a2)] 3 = mkF m 0 #[.val (.ref a1), .val (.ref a2), .unset] [] := by first | (simp [entryFrame, mkF, argsToLocals, Value.category]; done) | rfl
def Q19n2 (Z : State) (a1 : Addr) (a2 : Addr) (va : Addr) (kv : ClassId) (vb : Addr) (kb : ClassId) (y0 : Int32) (y1 : Int32) (cs : Int32) (h0 : Heap) (n0 : Nat) (v : Option Value) (h : Heap) (L : List Loc) : Prop := v = some (.int 1) ∧ Fr n0 L ∧ h = h0
theorem rm19n2 (l : Launch) (Z : State) (a0 : Array Value) (hw : ∀ d ∈ tables_1, d.before a0 Z = true) (ws : List Jvm.Cond) (a1 : Addr) (a2 : Addr) (va : Addr) (kv : ClassId) (vb : Addr) (kb : ClassId) (y0 : Int32) (y1 : Int32) (cs : Int32) (h0 : Heap) (n0 : Nat) (Z0 : n0 ≤ h0.size) (F0 : Exa Z h0 a1 oS) (F1 : Fld Z h0 a1 oS "coder" "B" (.int 0)) (F2 : Fld Z h0 a1 oS "value" "[B" (.ref va)) (F3 : Arv Z h0 va kv .byte (2 : Int32) [(.int y0), (.int y1)] (.int 0)) (G0 : Exa Z h0 a2 oS) (G1 : Fld Z h0 a2 oS "coder" "B" (.int 0)) (G2 : Fld Z h0 a2 oS "value" "[B" (.ref vb)) (G3 : Arv Z h0 vb kb .byte (2 : Int32) [(.int y0), (.int y1)] (.int 0)) (nx1 : a1 ≠ a2) (Cs : Sta Z Z.heap oS "COMPACT_STRINGS" "Z" (.int cs)) (hcs : ¬ (cs = (0 : Int32))) (Ox : Old Z n0 h0) :
    MetFree l oM30 (head1 (Jvm.Cond.code oM30 jdk_42_method_66_code 3 (some .boolean) :: ws) oR6) (fun a U => a = #[(.ref a1), (.ref a2)] ∧ Z.Warmed39 U.vm ∧ U.heap = h0) (fun _ _ _ _ _ => True) (fun _ U o U' => ∃ v L, o = .returned v ∧ Q19n2 Z a1 a2 va kv vb kb y0 y1 cs h0 n0 v U'.heap L ∧ FrameEnd U o U' L oR6.cells oR6.slots) := by
  refine MetFree.of_bodySF (plainFor_of_name pn17) hisR ?_
  intro p e s m args below meth c s₁ Bd hml0 hP hK
  obtain ⟨rfl, hZ, hh⟩ := hP
  have hx := Bd.exec
  have hby := Bd.bytes
  have hml : c.maxLocals = 3 := hml0
  have hown : s.vm.findClass oS = some m.cls := findClass_of_methodNamed Bd.named
  have hnm := (name_of_methodNamed Bd.named Bd.method).1
  have X0 : Stand p l e oR6 s m #[(.ref a1), (.ref a2)] below meth c s₁ [] 0 0 := Stand.of_body Bd
  have e0 : s₁.heap = h0 := by rw [← hh, Bd.state]; rfl
  have N0 := Fr.nil n0
  have pre0 : ∀ tZ, Steps p.tables e below (s₁.setTop (mkF m 0 #[.val (.ref a1), .val (.ref a2), .unset] [])) tZ → Steps p.tables e below (s₁.setTop (entryFrame m #[(.ref a1), (.ref a2)] 3)) tZ := fun tZ kZ => castTop (ef19n2 m a1 a2) kZ
  obtain ⟨T1, X1, e1, st1⟩ := instY X0 hx hZ hown (ow hw 119 rfl) e0 (Ins.self G0) (g := (mkF m 8 #[.val (.ref a1), .val (.ref a2), .unset] [(.ref a2)])) rfl rfl (hb hby d19_8)
  obtain ⟨T2, X2, e2, st2⟩ := castY X1 hx hZ hown (ow hw 119 rfl) e1 (Ins.self G0) (g := (mkF m 15 #[.val (.ref a1), .val (.ref a2), .unset] [(.ref a2)])) rfl rfl (hb hby d19_15)
  obtain ⟨T3, X3, e3, st3⟩ := getS2 X2 hx hZ hown (host := "") (Or.inl (ow hw 120 rfl)) Via.refl e2 (Cs.ext Ox.2) (g := (mkF m 19 #[.val (.ref a1), .val (.ref a2), .val (.ref a2)] [])) rfl (hb hby d19_19)
  obtain ⟨T4, X4, e4, st4⟩ := getF X3 hx hZ hown (host := "") (Or.inl (ow hw 94 rfl)) Via.refl e3 F1 (g := (mkF m 26 #[.val (.ref a1), .val (.ref a2), .val (.ref a2)] [(.ref a1)])) rfl rfl (hb hby d19_26)
  obtain ⟨T5, X5, e5, st5⟩ := getF X4 hx hZ hown (host := "") (Or.inl (ow hw 94 rfl)) Via.refl e4 G1 (g := (mkF m 30 #[.val (.ref a1), .val (.ref a2), .val (.ref a2)] [(.ref a2), (.int 0)])) rfl rfl (hb hby d19_30)
  obtain ⟨T6, X6, e6, st6⟩ := getF X5 hx hZ hown (host := "") (Or.inl (ow hw 113 rfl)) Via.refl e5 F2 (g := (mkF m 37 #[.val (.ref a1), .val (.ref a2), .val (.ref a2)] [(.ref a1)])) rfl rfl (hb hby d19_37)
  obtain ⟨T7, X7, e7, st7⟩ := getF X6 hx hZ hown (host := "") (Or.inl (ow hw 113 rfl)) Via.refl e6 G2 (g := (mkF m 41 #[.val (.ref a1), .val (.ref a2), .val (.ref a2)] [(.ref a2), (.ref va)])) rfl rfl (hb hby d19_41)
  obtain ⟨_, _, ⟨T8, L8, k8, n8⟩, -, X8, ⟨Lc8, hQ8, l8, y8, z8⟩, st8⟩ := Jvm.LawKit.callS X7 hx (y := oM29) hown (mvT hZ (ow hw 121 rfl)) (mvT hZ (ow hw 122 rfl)) (mvT hZ (ow hw 123 rfl)) (mvT hZ (ow hw 124 rfl)) (by decide) (backOf (W := 0) (rm20n2 l Z a0 hw [] va vb kv kb y0 y1 h0 n0 Z0 F3 G3) hZ (ow hw 124 rfl) (ow hw 123 rfl) (by decide) (by decide)) (g := (mkF m 44 #[.val (.ref a1), .val (.ref a2), .val (.ref a2)] [(.ref vb), (.ref va)])) rfl (by rw [hml]; rfl) (argsL := [(.ref va), (.ref vb)]) (rest := []) (lenOf pd25 rfl) rfl (Nat.le_of_eq rfl) (hb hby d19_44) (fun _ _ => ⟨rfl, e7, (by decide : 0 + 0 ≤ _), (by decide : 0 + 0 ≤ _)⟩)
  dsimp only [Pt.U, Pt.locs, Pt.cells, Pt.slots] at X8 l8 y8 z8 st8 hQ8
  subst l8 y8 z8
  obtain ⟨rfl, N8q, e8⟩ := hQ8
  have N8 := Fr.app N0 N8q
  obtain ⟨fsZ, hrZ, hrun, hended, hW, hsame⟩ := X8.leave (v := some (.int 1)) (fun h => by rw [Bd.returns] at h; cases h)
  refine ⟨_, _, pre0 _ ?_, hrun, hended, _, _, rfl, ?_, ⟨_, rfl⟩, hW, hsame.mono (by decide) (by decide)⟩
  · show Steps _ _ _ (s₁.setTop (mkF m 0 #[.val (.ref a1), .val (.ref a2), .unset] [])) _
    refine XS.aloadN X0.here hx rfl (hb hby d19_0) rfl rfl ?_
    refine XS.aloadN X0.here hx rfl (hb hby d19_1) rfl rfl ?_
    show Steps _ _ _ (s₁.setTop (mkF m 2 #[.val (.ref a1), .val (.ref a2), .unset] [(.ref a2), (.ref a1)])) _
    refine Jvm.RoadKit.acmp (g := (mkF m 2 #[.val (.ref a1), .val (.ref a2), .unset] [(.ref a2), (.ref a1)])) X0 hx rfl rfl rfl (pc0 := 2) (pc' := 7) (same := false) rfl (hb hby d19_2) rfl (decide_eq_false fun q => nx1 (Value.ref.inj q)) (by decide) (by decide) ?_
    refine XS.aloadN X0.here hx rfl (hb hby d19_7) rfl rfl ?_
    show Steps _ _ _ (s₁.setTop (mkF m 8 #[.val (.ref a1), .val (.ref a2), .unset] [(.ref a2)])) _
    refine st1 _ ?_
    refine XS.ifNo X1.here hx rfl (hb hby d19_11) rfl ((if0 _ _).trans (feq (by decide)).1) ?_
    refine XS.aloadN X1.here hx rfl (hb hby d19_14) rfl rfl ?_
    show Steps _ _ _ (T1.setTop (mkF m 15 #[.val (.ref a1), .val (.ref a2), .unset] [(.ref a2)])) _
    refine st2 _ ?_
    refine XS.astoreN X2.here hx rfl (hb hby d19_18) rfl rfl (l' := #[.val (.ref a1), .val (.ref a2), .val (.ref a2)]) rfl ?_
    show Steps _ _ _ (T2.setTop (mkF m 19 #[.val (.ref a1), .val (.ref a2), .val (.ref a2)] [])) _
    refine st3 _ ?_
    refine XS.ifNo X3.here hx rfl (hb hby d19_22) rfl ((if0 _ _).trans (feq hcs).1) ?_
    refine XS.aloadN X3.here hx rfl (hb hby d19_25) rfl rfl ?_
    show Steps _ _ _ (T3.setTop (mkF m 26 #[.val (.ref a1), .val (.ref a2), .val (.ref a2)] [(.ref a1)])) _
    refine st4 _ ?_
    refine XS.aloadN X4.here hx rfl (hb hby d19_29) rfl rfl ?_
    show Steps _ _ _ (T4.setTop (mkF m 30 #[.val (.ref a1), .val (.ref a2), .val (.ref a2)] [(.ref a2), (.int 0)])) _
    refine st5 _ ?_
    refine XS.icmpNo X5.here hx rfl (hb hby d19_33) rfl (teq (by decide)).2 ?_
    refine XS.aloadN X5.here hx rfl (hb hby d19_36) rfl rfl ?_
    show Steps _ _ _ (T5.setTop (mkF m 37 #[.val (.ref a1), .val (.ref a2), .val (.ref a2)] [(.ref a1)])) _
    refine st6 _ ?_
    refine XS.aloadN X6.here hx rfl (hb hby d19_40) rfl rfl ?_
    show Steps _ _ _ (T6.setTop (mkF m 41 #[.val (.ref a1), .val (.ref a2), .val (.ref a2)] [(.ref a2), (.ref va)])) _
    refine st7 _ ?_
    show Steps _ _ _ (T7.setTop (mkF m 44 #[.val (.ref a1), .val (.ref a2), .val (.ref a2)] [(.ref vb), (.ref va)])) _
    refine st8 _ ?_
    refine XS.ifNo X8.here hx rfl (hb hby d19_47) rfl ((if0 _ _).trans (feq (by decide)).1) ?_
    refine XS.iconst X8.here hx rfl (hb hby d19_50) ?_
    refine XS.goto X8.here hx rfl (pc0 := 51) (pc' := 55) rfl (hb hby d19_51) (by decide) (by decide) ?_
    show Steps _ _ _ (T8.setTop (mkF m 55 #[.val (.ref a1), .val (.ref a2), .val (.ref a2)] [(.int 1)])) _
    exact retN X8 hx (t := .boolean) Bd.returns (by simp) (hb hby d19_55) hrZ
  · show Q19n2 Z a1 a2 va kv vb kb y0 y1 cs h0 n0 _ T8.heap _
    rw [e8]
    exact ⟨rfl, N8, rfl⟩
theorem ef20n4 (m : MethodId) (va : Addr) (vb : Addr) : entryFrame m #[(.ref va), (.ref vb)] 3 = mkF m 0 #[.val (.ref va), .val (.ref vb), .unset] [] := by first | (simp [entryFrame, mkF, argsToLocals, Value.category]; done) | rfl
def Q20n4 (Z : State) (va : Addr) (vb : Addr) (kv : ClassId) (kb : ClassId) (y0 : Int32) (y1 : Int32) (y2 : Int32) (y3 : Int32) (h0 : Heap) (n0 : Nat) (v : Option Value) (h : Heap) (L : List Loc) : Prop := v = some (.int 1) ∧ Fr n0 L ∧ h = h0
theorem rm20n4 (l : Launch) (Z : State) (a0 : Array Value) (hw : ∀ d ∈ tables_1, d.before a0 Z = true) (ws : List Jvm.Cond) (va : Addr) (vb : Addr) (kv : ClassId) (kb : ClassId) (y0 : Int32) (y1 : Int32) (y2 : Int32) (y3 : Int32) (h0 : Heap) (n0 : Nat) (Z0 : n0 ≤ h0.size) (Vx1 : Arv Z h0 va kv .byte (4 : Int32) [(.int y0), (.int y1), (.int y2), (.int y3)] (.int 0)) (Vx2 : Arv Z h0 vb kb .byte (4 : Int32) [(.int y0), (.int y1), (.int y2), (.int y3)] (.int 0)) :
    MetFree l oM29 (head1 (Jvm.Cond.code oM29 jdk_43_method_13_code 3 (some .boolean) :: ws) oR1) (fun a U => a = #[(.ref va), (.ref vb)] ∧ Z.Warmed39 U.vm ∧ U.heap = h0) (fun _ _ _ _ _ => True) (fun _ U o U' => ∃ v L, o = .returned v ∧ Q20n4 Z va vb kv kb y0 y1 y2 y3 h0 n0 v U'.heap L ∧ FrameEnd U o U' L oR1.cells oR1.slots) := by
  refine MetFree.of_bodySF (plainFor_of_name pn5) hisR ?_
  intro p e s m args below meth c s₁ Bd hml0 hP hK
  obtain ⟨rfl, hZ, hh⟩ := hP
  have hx := Bd.exec
  have hby := Bd.bytes
  have hml : c.maxLocals = 3 := hml0
  have hown : s.vm.findClass "java/lang/StringLatin1" = some m.cls := findClass_of_methodNamed Bd.named
  have hnm := (name_of_methodNamed Bd.named Bd.method).1
  have X0 : Stand p l e oR1 s m #[(.ref va), (.ref vb)] below meth c s₁ [] 0 0 := Stand.of_body Bd
  have e0 : s₁.heap = h0 := by rw [← hh, Bd.state]; rfl
  have N0 := Fr.nil n0
  have pre0 : ∀ tZ, Steps p.tables e below (s₁.setTop (mkF m 0 #[.val (.ref va), .val (.ref vb), .unset] [])) tZ → Steps p.tables e below (s₁.setTop (entryFrame m #[(.ref va), (.ref vb)] 3)) tZ := fun tZ kZ => castTop (ef20n4 m va vb) kZ
  obtain ⟨c1, Arc1, -, Sc1, Mc1, -, -⟩ := id Vx1
  obtain ⟨c2, Arc2, -, Sc2, Mc2, -, -⟩ := id Vx2
  obtain ⟨c3, Arc3, -, Sc3, Mc3, -, -⟩ := id Vx1
  obtain ⟨c4, Arc4, qc4, Sc4, Mc4, Hc4, Gc4⟩ := id Vx1
  have hinc4 : ¬ ((0 : Int32) < 0 ∨ c4.slots.size ≤ ((0 : Int32)).toNatClampNeg) := inb_of Sc4 ⟨by decide, by decide⟩
  have hatc4 : c4.slots[((0 : Int32)).toNatClampNeg]? = some (.int y0) := Hc4.at hinc4 rfl
  obtain ⟨c5, Arc5, qc5, Sc5, Mc5, Hc5, Gc5⟩ := id Vx2
  have hinc5 : ¬ ((0 : Int32) < 0 ∨ c5.slots.size ≤ ((0 : Int32)).toNatClampNeg) := inb_of Sc5 ⟨by decide, by decide⟩
  have hatc5 : c5.slots[((0 : Int32)).toNatClampNeg]? = some (.int y0) := Hc5.at hinc5 rfl
  obtain ⟨c6, Arc6, -, Sc6, Mc6, -, -⟩ := id Vx1
  obtain ⟨c7, Arc7, qc7, Sc7, Mc7, Hc7, Gc7⟩ := id Vx1
  have hinc7 : ¬ ((1 : Int32) < 0 ∨ c7.slots.size ≤ ((1 : Int32)).toNatClampNeg) := inb_of Sc7 ⟨by decide, by decide⟩
  have hatc7 : c7.slots[((1 : Int32)).toNatClampNeg]? = some (.int y1) := Hc7.at hinc7 rfl
  obtain ⟨c8, Arc8, qc8, Sc8, Mc8, Hc8, Gc8⟩ := id Vx2
  have hinc8 : ¬ ((1 : Int32) < 0 ∨ c8.slots.size ≤ ((1 : Int32)).toNatClampNeg) := inb_of Sc8 ⟨by decide, by decide⟩
  have hatc8 : c8.slots[((1 : Int32)).toNatClampNeg]? = some (.int y1) := Hc8.at hinc8 rfl
  obtain ⟨c9, Arc9, -, Sc9, Mc9, -, -⟩ := id Vx1
  obtain ⟨c10, Arc10, qc10, Sc10, Mc10, Hc10, Gc10⟩ := id Vx1
  have hinc10 : ¬ ((2 : Int32) < 0 ∨ c10.slots.size ≤ ((2 : Int32)).toNatClampNeg) := inb_of Sc10 ⟨by decide, by decide⟩
  have hatc10 : c10.slots[((2 : Int32)).toNatClampNeg]? = some (.int y2) := Hc10.at hinc10 rfl
  obtain ⟨c11, Arc11, qc11, Sc11, Mc11, Hc11, Gc11⟩ := id Vx2
  have hinc11 : ¬ ((2 : Int32) < 0 ∨ c11.slots.size ≤ ((2 : Int32)).toNatClampNeg) := inb_of Sc11 ⟨by decide, by decide⟩
  have hatc11 : c11.slots[((2 : Int32)).toNatClampNeg]? = some (.int y2) := Hc11.at hinc11 rfl
  obtain ⟨c12, Arc12, -, Sc12, Mc12, -, -⟩ := id Vx1
  obtain ⟨c13, Arc13, qc13, Sc13, Mc13, Hc13, Gc13⟩ := id Vx1
  have hinc13 : ¬ ((3 : Int32) < 0 ∨ c13.slots.size ≤ ((3 : Int32)).toNatClampNeg) := inb_of Sc13 ⟨by decide, by decide⟩
  have hatc13 : c13.slots[((3 : Int32)).toNatClampNeg]? = some (.int y3) := Hc13.at hinc13 rfl
  obtain ⟨c14, Arc14, qc14, Sc14, Mc14, Hc14, Gc14⟩ := id Vx2
  have hinc14 : ¬ ((3 : Int32) < 0 ∨ c14.slots.size ≤ ((3 : Int32)).toNatClampNeg) := inb_of Sc14 ⟨by decide, by decide⟩
  have hatc14 : c14.slots[((3 : Int32)).toNatClampNeg]? = some (.int y3) := Hc14.at hinc14 rfl
  obtain ⟨c15, Arc15, -, Sc15, Mc15, -, -⟩ := id Vx1
  obtain ⟨fsZ, hrZ, hrun, hended, hW, hsame⟩ := X0.leave (v := some (.int 1)) (fun h => by rw [Bd.returns] at h; cases h)
  refine ⟨_, _, pre0 _ ?_, hrun, hended, _, _, rfl, ?_, ⟨_, rfl⟩, hW, hsame.mono (by decide) (by decide)⟩
  · show Steps _ _ _ (s₁.setTop (mkF m 0 #[.val (.ref va), .val (.ref vb), .unset] [])) _
    refine XS.aloadN X0.here hx rfl (hb hby d20_0) rfl rfl ?_
    show Steps _ _ _ (s₁.setTop (mkF m 1 #[.val (.ref va), .val (.ref vb), .unset] [(.ref va)])) _
    refine X0.arraylength hx (by rw [e0]; exact Arc1.1) (State.isArrayOf_alike hZ.alike Arc1.2.1) (g := (mkF m 1 #[.val (.ref va), .val (.ref vb), .unset] [(.ref va)])) rfl rfl (hb hby d20_1) _ ?_
    rw [len_of Sc1 Mc1]
    show Steps _ _ _ (s₁.setTop (mkF m 2 #[.val (.ref va), .val (.ref vb), .unset] [(.int 4)])) _
    refine XS.aloadN X0.here hx rfl (hb hby d20_2) rfl rfl ?_
    show Steps _ _ _ (s₁.setTop (mkF m 3 #[.val (.ref va), .val (.ref vb), .unset] [(.ref vb), (.int 4)])) _
    refine X0.arraylength hx (by rw [e0]; exact Arc2.1) (State.isArrayOf_alike hZ.alike Arc2.2.1) (g := (mkF m 3 #[.val (.ref va), .val (.ref vb), .unset] [(.ref vb), (.int 4)])) rfl rfl (hb hby d20_3) _ ?_
    rw [len_of Sc2 Mc2]
    show Steps _ _ _ (s₁.setTop (mkF m 4 #[.val (.ref va), .val (.ref vb), .unset] [(.int 4), (.int 4)])) _
    refine XS.icmpNo X0.here hx rfl (hb hby d20_4) rfl (teq (by decide)).2 ?_
    refine XS.iconst X0.here hx rfl (hb hby d20_7) ?_
    refine XS.istoreN X0.here hx rfl (hb hby d20_8) rfl (l' := #[.val (.ref va), .val (.ref vb), .val (.int 0)]) rfl ?_
    refine XS.iloadN X0.here hx rfl (hb hby d20_9) rfl  ?_
    refine XS.aloadN X0.here hx rfl (hb hby d20_10) rfl rfl ?_
    show Steps _ _ _ (s₁.setTop (mkF m 11 #[.val (.ref va), .val (.ref vb), .val (.int 0)] [(.ref va), (.int 0)])) _
    refine X0.arraylength hx (by rw [e0]; exact Arc3.1) (State.isArrayOf_alike hZ.alike Arc3.2.1) (g := (mkF m 11 #[.val (.ref va), .val (.ref vb), .val (.int 0)] [(.ref va), (.int 0)])) rfl rfl (hb hby d20_11) _ ?_
    rw [len_of Sc3 Mc3]
    show Steps _ _ _ (s₁.setTop (mkF m 12 #[.val (.ref va), .val (.ref vb), .val (.int 0)] [(.int 4), (.int 0)])) _
    refine XS.icmpNo X0.here hx rfl (hb hby d20_12) rfl (tlt (by decide)).2.1 ?_
    refine XS.aloadN X0.here hx rfl (hb hby d20_15) rfl rfl ?_
    refine XS.iloadN X0.here hx rfl (hb hby d20_16) rfl  ?_
    show Steps _ _ _ (s₁.setTop (mkF m 17 #[.val (.ref va), .val (.ref vb), .val (.int 0)] [(.int 0), (.ref va)])) _
    refine X0.baloadBytes hx (j := (0 : Int32)) (v := (.int y0)) (by rw [e0]; exact Arc4.1) (State.isArrayOf_alike hZ.alike Arc4.2.1) Arc4.2.2 hinc4 hatc4 (g := (mkF m 17 #[.val (.ref va), .val (.ref vb), .val (.int 0)] [(.int 0), (.ref va)])) rfl rfl (hb hby d20_17) _ ?_
    refine XS.aloadN X0.here hx rfl (hb hby d20_18) rfl rfl ?_
    refine XS.iloadN X0.here hx rfl (hb hby d20_19) rfl  ?_
    show Steps _ _ _ (s₁.setTop (mkF m 20 #[.val (.ref va), .val (.ref vb), .val (.int 0)] [(.int 0), (.ref vb), (.int y0)])) _
    refine X0.baloadBytes hx (j := (0 : Int32)) (v := (.int y0)) (by rw [e0]; exact Arc5.1) (State.isArrayOf_alike hZ.alike Arc5.2.1) Arc5.2.2 hinc5 hatc5 (g := (mkF m 20 #[.val (.ref va), .val (.ref vb), .val (.int 0)] [(.int 0), (.ref vb), (.int y0)])) rfl rfl (hb hby d20_20) _ ?_
    refine XS.icmpYes X0.here hx rfl (pc0 := 21) (pc' := 26) rfl (hb hby d20_21) rfl (teq rfl).1 (by decide) (by decide) ?_
    refine XS.iinc X0.here hx rfl (hb hby d20_26) rfl (l' := #[.val (.ref va), .val (.ref vb), .val (.int ((0 : Int32) + (1 : Int32)))]) rfl ?_
    show Steps _ _ _ (s₁.setTop (mkF m 29 #[.val (.ref va), .val (.ref vb), .val (.int ((0 : Int32) + (1 : Int32)))] [])) _
    rw [show ((0 : Int32) + (1 : Int32)) = (1 : Int32) from by decide]
    show Steps _ _ _ (s₁.setTop (mkF m 29 #[.val (.ref va), .val (.ref vb), .val (.int 1)] [])) _
    refine XS.goto X0.here hx rfl (pc0 := 29) (pc' := 9) rfl (hb hby d20_29) (by decide) (by decide) ?_
    refine XS.iloadN X0.here hx rfl (hb hby d20_9) rfl  ?_
    refine XS.aloadN X0.here hx rfl (hb hby d20_10) rfl rfl ?_
    show Steps _ _ _ (s₁.setTop (mkF m 11 #[.val (.ref va), .val (.ref vb), .val (.int 1)] [(.ref va), (.int 1)])) _
    refine X0.arraylength hx (by rw [e0]; exact Arc6.1) (State.isArrayOf_alike hZ.alike Arc6.2.1) (g := (mkF m 11 #[.val (.ref va), .val (.ref vb), .val (.int 1)] [(.ref va), (.int 1)])) rfl rfl (hb hby d20_11) _ ?_
    rw [len_of Sc6 Mc6]
    show Steps _ _ _ (s₁.setTop (mkF m 12 #[.val (.ref va), .val (.ref vb), .val (.int 1)] [(.int 4), (.int 1)])) _
    refine XS.icmpNo X0.here hx rfl (hb hby d20_12) rfl (tlt (by decide)).2.1 ?_
    refine XS.aloadN X0.here hx rfl (hb hby d20_15) rfl rfl ?_
    refine XS.iloadN X0.here hx rfl (hb hby d20_16) rfl  ?_
    show Steps _ _ _ (s₁.setTop (mkF m 17 #[.val (.ref va), .val (.ref vb), .val (.int 1)] [(.int 1), (.ref va)])) _
    refine X0.baloadBytes hx (j := (1 : Int32)) (v := (.int y1)) (by rw [e0]; exact Arc7.1) (State.isArrayOf_alike hZ.alike Arc7.2.1) Arc7.2.2 hinc7 hatc7 (g := (mkF m 17 #[.val (.ref va), .val (.ref vb), .val (.int 1)] [(.int 1), (.ref va)])) rfl rfl (hb hby d20_17) _ ?_
    refine XS.aloadN X0.here hx rfl (hb hby d20_18) rfl rfl ?_
    refine XS.iloadN X0.here hx rfl (hb hby d20_19) rfl  ?_
    show Steps _ _ _ (s₁.setTop (mkF m 20 #[.val (.ref va), .val (.ref vb), .val (.int 1)] [(.int 1), (.ref vb), (.int y1)])) _
    refine X0.baloadBytes hx (j := (1 : Int32)) (v := (.int y1)) (by rw [e0]; exact Arc8.1) (State.isArrayOf_alike hZ.alike Arc8.2.1) Arc8.2.2 hinc8 hatc8 (g := (mkF m 20 #[.val (.ref va), .val (.ref vb), .val (.int 1)] [(.int 1), (.ref vb), (.int y1)])) rfl rfl (hb hby d20_20) _ ?_
    refine XS.icmpYes X0.here hx rfl (pc0 := 21) (pc' := 26) rfl (hb hby d20_21) rfl (teq rfl).1 (by decide) (by decide) ?_
    refine XS.iinc X0.here hx rfl (hb hby d20_26) rfl (l' := #[.val (.ref va), .val (.ref vb), .val (.int ((1 : Int32) + (1 : Int32)))]) rfl ?_
    show Steps _ _ _ (s₁.setTop (mkF m 29 #[.val (.ref va), .val (.ref vb), .val (.int ((1 : Int32) + (1 : Int32)))] [])) _
    rw [show ((1 : Int32) + (1 : Int32)) = (2 : Int32) from by decide]
    show Steps _ _ _ (s₁.setTop (mkF m 29 #[.val (.ref va), .val (.ref vb), .val (.int 2)] [])) _
    refine XS.goto X0.here hx rfl (pc0 := 29) (pc' := 9) rfl (hb hby d20_29) (by decide) (by decide) ?_
    refine XS.iloadN X0.here hx rfl (hb hby d20_9) rfl  ?_
    refine XS.aloadN X0.here hx rfl (hb hby d20_10) rfl rfl ?_
    show Steps _ _ _ (s₁.setTop (mkF m 11 #[.val (.ref va), .val (.ref vb), .val (.int 2)] [(.ref va), (.int 2)])) _
    refine X0.arraylength hx (by rw [e0]; exact Arc9.1) (State.isArrayOf_alike hZ.alike Arc9.2.1) (g := (mkF m 11 #[.val (.ref va), .val (.ref vb), .val (.int 2)] [(.ref va), (.int 2)])) rfl rfl (hb hby d20_11) _ ?_
    rw [len_of Sc9 Mc9]
    show Steps _ _ _ (s₁.setTop (mkF m 12 #[.val (.ref va), .val (.ref vb), .val (.int 2)] [(.int 4), (.int 2)])) _
    refine XS.icmpNo X0.here hx rfl (hb hby d20_12) rfl (tlt (by decide)).2.1 ?_
    refine XS.aloadN X0.here hx rfl (hb hby d20_15) rfl rfl ?_
    refine XS.iloadN X0.here hx rfl (hb hby d20_16) rfl  ?_
    show Steps _ _ _ (s₁.setTop (mkF m 17 #[.val (.ref va), .val (.ref vb), .val (.int 2)] [(.int 2), (.ref va)])) _
    refine X0.baloadBytes hx (j := (2 : Int32)) (v := (.int y2)) (by rw [e0]; exact Arc10.1) (State.isArrayOf_alike hZ.alike Arc10.2.1) Arc10.2.2 hinc10 hatc10 (g := (mkF m 17 #[.val (.ref va), .val (.ref vb), .val (.int 2)] [(.int 2), (.ref va)])) rfl rfl (hb hby d20_17) _ ?_
    refine XS.aloadN X0.here hx rfl (hb hby d20_18) rfl rfl ?_
    refine XS.iloadN X0.here hx rfl (hb hby d20_19) rfl  ?_
    show Steps _ _ _ (s₁.setTop (mkF m 20 #[.val (.ref va), .val (.ref vb), .val (.int 2)] [(.int 2), (.ref vb), (.int y2)])) _
    refine X0.baloadBytes hx (j := (2 : Int32)) (v := (.int y2)) (by rw [e0]; exact Arc11.1) (State.isArrayOf_alike hZ.alike Arc11.2.1) Arc11.2.2 hinc11 hatc11 (g := (mkF m 20 #[.val (.ref va), .val (.ref vb), .val (.int 2)] [(.int 2), (.ref vb), (.int y2)])) rfl rfl (hb hby d20_20) _ ?_
    refine XS.icmpYes X0.here hx rfl (pc0 := 21) (pc' := 26) rfl (hb hby d20_21) rfl (teq rfl).1 (by decide) (by decide) ?_
    refine XS.iinc X0.here hx rfl (hb hby d20_26) rfl (l' := #[.val (.ref va), .val (.ref vb), .val (.int ((2 : Int32) + (1 : Int32)))]) rfl ?_
    show Steps _ _ _ (s₁.setTop (mkF m 29 #[.val (.ref va), .val (.ref vb), .val (.int ((2 : Int32) + (1 : Int32)))] [])) _
    rw [show ((2 : Int32) + (1 : Int32)) = (3 : Int32) from by decide]
    show Steps _ _ _ (s₁.setTop (mkF m 29 #[.val (.ref va), .val (.ref vb), .val (.int 3)] [])) _
    refine XS.goto X0.here hx rfl (pc0 := 29) (pc' := 9) rfl (hb hby d20_29) (by decide) (by decide) ?_
    refine XS.iloadN X0.here hx rfl (hb hby d20_9) rfl  ?_
    refine XS.aloadN X0.here hx rfl (hb hby d20_10) rfl rfl ?_
    show Steps _ _ _ (s₁.setTop (mkF m 11 #[.val (.ref va), .val (.ref vb), .val (.int 3)] [(.ref va), (.int 3)])) _
    refine X0.arraylength hx (by rw [e0]; exact Arc12.1) (State.isArrayOf_alike hZ.alike Arc12.2.1) (g := (mkF m 11 #[.val (.ref va), .val (.ref vb), .val (.int 3)] [(.ref va), (.int 3)])) rfl rfl (hb hby d20_11) _ ?_
    rw [len_of Sc12 Mc12]
    show Steps _ _ _ (s₁.setTop (mkF m 12 #[.val (.ref va), .val (.ref vb), .val (.int 3)] [(.int 4), (.int 3)])) _
    refine XS.icmpNo X0.here hx rfl (hb hby d20_12) rfl (tlt (by decide)).2.1 ?_
    refine XS.aloadN X0.here hx rfl (hb hby d20_15) rfl rfl ?_
    refine XS.iloadN X0.here hx rfl (hb hby d20_16) rfl  ?_
    show Steps _ _ _ (s₁.setTop (mkF m 17 #[.val (.ref va), .val (.ref vb), .val (.int 3)] [(.int 3), (.ref va)])) _
    refine X0.baloadBytes hx (j := (3 : Int32)) (v := (.int y3)) (by rw [e0]; exact Arc13.1) (State.isArrayOf_alike hZ.alike Arc13.2.1) Arc13.2.2 hinc13 hatc13 (g := (mkF m 17 #[.val (.ref va), .val (.ref vb), .val (.int 3)] [(.int 3), (.ref va)])) rfl rfl (hb hby d20_17) _ ?_
    refine XS.aloadN X0.here hx rfl (hb hby d20_18) rfl rfl ?_
    refine XS.iloadN X0.here hx rfl (hb hby d20_19) rfl  ?_
    show Steps _ _ _ (s₁.setTop (mkF m 20 #[.val (.ref va), .val (.ref vb), .val (.int 3)] [(.int 3), (.ref vb), (.int y3)])) _
    refine X0.baloadBytes hx (j := (3 : Int32)) (v := (.int y3)) (by rw [e0]; exact Arc14.1) (State.isArrayOf_alike hZ.alike Arc14.2.1) Arc14.2.2 hinc14 hatc14 (g := (mkF m 20 #[.val (.ref va), .val (.ref vb), .val (.int 3)] [(.int 3), (.ref vb), (.int y3)])) rfl rfl (hb hby d20_20) _ ?_
    refine XS.icmpYes X0.here hx rfl (pc0 := 21) (pc' := 26) rfl (hb hby d20_21) rfl (teq rfl).1 (by decide) (by decide) ?_
    refine XS.iinc X0.here hx rfl (hb hby d20_26) rfl (l' := #[.val (.ref va), .val (.ref vb), .val (.int ((3 : Int32) + (1 : Int32)))]) rfl ?_
    show Steps _ _ _ (s₁.setTop (mkF m 29 #[.val (.ref va), .val (.ref vb), .val (.int ((3 : Int32) + (1 : Int32)))] [])) _
    rw [show ((3 : Int32) + (1 : Int32)) = (4 : Int32) from by decide]
    show Steps _ _ _ (s₁.setTop (mkF m 29 #[.val (.ref va), .val (.ref vb), .val (.int 4)] [])) _
    refine XS.goto X0.here hx rfl (pc0 := 29) (pc' := 9) rfl (hb hby d20_29) (by decide) (by decide) ?_
    refine XS.iloadN X0.here hx rfl (hb hby d20_9) rfl  ?_
    refine XS.aloadN X0.here hx rfl (hb hby d20_10) rfl rfl ?_
    show Steps _ _ _ (s₁.setTop (mkF m 11 #[.val (.ref va), .val (.ref vb), .val (.int 4)] [(.ref va), (.int 4)])) _
    refine X0.arraylength hx (by rw [e0]; exact Arc15.1) (State.isArrayOf_alike hZ.alike Arc15.2.1) (g := (mkF m 11 #[.val (.ref va), .val (.ref vb), .val (.int 4)] [(.ref va), (.int 4)])) rfl rfl (hb hby d20_11) _ ?_
    rw [len_of Sc15 Mc15]
    show Steps _ _ _ (s₁.setTop (mkF m 12 #[.val (.ref va), .val (.ref vb), .val (.int 4)] [(.int 4), (.int 4)])) _
    refine XS.icmpYes X0.here hx rfl (pc0 := 12) (pc' := 32) rfl (hb hby d20_12) rfl (flt (by decide)).2.1 (by decide) (by decide) ?_
    refine XS.iconst X0.here hx rfl (hb hby d20_32) ?_
    show Steps _ _ _ (s₁.setTop (mkF m 33 #[.val (.ref va), .val (.ref vb), .val (.int 4)] [(.int 1)])) _
    exact retN X0 hx (t := .boolean) Bd.returns (by simp) (hb hby d20_33) hrZ
  · show Q20n4 Z va vb kv kb y0 y1 y2 y3 h0 n0 _ s₁.heap _
    rw [e0]
    exact ⟨rfl, N0, rfl⟩
theorem ef19n4 (m : MethodId) (a1 : Addr) (a2 : Addr) : entryFrame m #[(.ref a1), (.ref a2)] 3 = mkF m 0 #[.val (.ref a1), .val (.ref a2), .unset] [] := by first | (simp [entryFrame, mkF, argsToLocals, Value.category]; done) | rfl
def Q19n4 (Z : State) (a1 : Addr) (a2 : Addr) (va : Addr) (kv : ClassId) (vb : Addr) (kb : ClassId) (y0 : Int32) (y1 : Int32) (y2 : Int32) (y3 : Int32) (cs : Int32) (h0 : Heap) (n0 : Nat) (v : Option Value) (h : Heap) (L : List Loc) : Prop := v = some (.int 1) ∧ Fr n0 L ∧ h = h0
theorem rm19n4 (l : Launch) (Z : State) (a0 : Array Value) (hw : ∀ d ∈ tables_1, d.before a0 Z = true) (ws : List Jvm.Cond) (a1 : Addr) (a2 : Addr) (va : Addr) (kv : ClassId) (vb : Addr) (kb : ClassId) (y0 : Int32) (y1 : Int32) (y2 : Int32) (y3 : Int32) (cs : Int32) (h0 : Heap) (n0 : Nat) (Z0 : n0 ≤ h0.size) (F0 : Exa Z h0 a1 oS) (F1 : Fld Z h0 a1 oS "coder" "B" (.int 0)) (F2 : Fld Z h0 a1 oS "value" "[B" (.ref va)) (F3 : Arv Z h0 va kv .byte (4 : Int32) [(.int y0), (.int y1), (.int y2), (.int y3)] (.int 0)) (G0 : Exa Z h0 a2 oS) (G1 : Fld Z h0 a2 oS "coder" "B" (.int 0)) (G2 : Fld Z h0 a2 oS "value" "[B" (.ref vb)) (G3 : Arv Z h0 vb kb .byte (4 : Int32) [(.int y0), (.int y1), (.int y2), (.int y3)] (.int 0)) (nx1 : a1 ≠ a2) (Cs : Sta Z Z.heap oS "COMPACT_STRINGS" "Z" (.int cs)) (hcs : ¬ (cs = (0 : Int32))) (Ox : Old Z n0 h0) :
    MetFree l oM30 (head1 (Jvm.Cond.code oM30 jdk_42_method_66_code 3 (some .boolean) :: ws) oR6) (fun a U => a = #[(.ref a1), (.ref a2)] ∧ Z.Warmed39 U.vm ∧ U.heap = h0) (fun _ _ _ _ _ => True) (fun _ U o U' => ∃ v L, o = .returned v ∧ Q19n4 Z a1 a2 va kv vb kb y0 y1 y2 y3 cs h0 n0 v U'.heap L ∧ FrameEnd U o U' L oR6.cells oR6.slots) := by
  refine MetFree.of_bodySF (plainFor_of_name pn17) hisR ?_
  intro p e s m args below meth c s₁ Bd hml0 hP hK
  obtain ⟨rfl, hZ, hh⟩ := hP
  have hx := Bd.exec
  have hby := Bd.bytes
  have hml : c.maxLocals = 3 := hml0
  have hown : s.vm.findClass oS = some m.cls := findClass_of_methodNamed Bd.named
  have hnm := (name_of_methodNamed Bd.named Bd.method).1
  have X0 : Stand p l e oR6 s m #[(.ref a1), (.ref a2)] below meth c s₁ [] 0 0 := Stand.of_body Bd
  have e0 : s₁.heap = h0 := by rw [← hh, Bd.state]; rfl
  have N0 := Fr.nil n0
  have pre0 : ∀ tZ, Steps p.tables e below (s₁.setTop (mkF m 0 #[.val (.ref a1), .val (.ref a2), .unset] [])) tZ → Steps p.tables e below (s₁.setTop (entryFrame m #[(.ref a1), (.ref a2)] 3)) tZ := fun tZ kZ => castTop (ef19n4 m a1 a2) kZ
  obtain ⟨T1, X1, e1, st1⟩ := instY X0 hx hZ hown (ow hw 119 rfl) e0 (Ins.self G0) (g := (mkF m 8 #[.val (.ref a1), .val (.ref a2), .unset] [(.ref a2)])) rfl rfl (hb hby d19_8)
  obtain ⟨T2, X2, e2, st2⟩ := castY X1 hx hZ hown (ow hw 119 rfl) e1 (Ins.self G0) (g := (mkF m 15 #[.val (.ref a1), .val (.ref a2), .unset] [(.ref a2)])) rfl rfl (hb hby d19_15)
  obtain ⟨T3, X3, e3, st3⟩ := getS2 X2 hx hZ hown (host := "") (Or.inl (ow hw 120 rfl)) Via.refl e2 (Cs.ext Ox.2) (g := (mkF m 19 #[.val (.ref a1), .val (.ref a2), .val (.ref a2)] [])) rfl (hb hby d19_19)
  obtain ⟨T4, X4, e4, st4⟩ := getF X3 hx hZ hown (host := "") (Or.inl (ow hw 94 rfl)) Via.refl e3 F1 (g := (mkF m 26 #[.val (.ref a1), .val (.ref a2), .val (.ref a2)] [(.ref a1)])) rfl rfl (hb hby d19_26)
  obtain ⟨T5, X5, e5, st5⟩ := getF X4 hx hZ hown (host := "") (Or.inl (ow hw 94 rfl)) Via.refl e4 G1 (g := (mkF m 30 #[.val (.ref a1), .val (.ref a2), .val (.ref a2)] [(.ref a2), (.int 0)])) rfl rfl (hb hby d19_30)
  obtain ⟨T6, X6, e6, st6⟩ := getF X5 hx hZ hown (host := "") (Or.inl (ow hw 113 rfl)) Via.refl e5 F2 (g := (mkF m 37 #[.val (.ref a1), .val (.ref a2), .val (.ref a2)] [(.ref a1)])) rfl rfl (hb hby d19_37)
  obtain ⟨T7, X7, e7, st7⟩ := getF X6 hx hZ hown (host := "") (Or.inl (ow hw 113 rfl)) Via.refl e6 G2 (g := (mkF m 41 #[.val (.ref a1), .val (.ref a2), .val (.ref a2)] [(.ref a2), (.ref va)])) rfl rfl (hb hby d19_41)
  obtain ⟨_, _, ⟨T8, L8, k8, n8⟩, -, X8, ⟨Lc8, hQ8, l8, y8, z8⟩, st8⟩ := Jvm.LawKit.callS X7 hx (y := oM29) hown (mvT hZ (ow hw 121 rfl)) (mvT hZ (ow hw 122 rfl)) (mvT hZ (ow hw 123 rfl)) (mvT hZ (ow hw 124 rfl)) (by decide) (backOf (W := 0) (rm20n4 l Z a0 hw [] va vb kv kb y0 y1 y2 y3 h0 n0 Z0 F3 G3) hZ (ow hw 124 rfl) (ow hw 123 rfl) (by decide) (by decide)) (g := (mkF m 44 #[.val (.ref a1), .val (.ref a2), .val (.ref a2)] [(.ref vb), (.ref va)])) rfl (by rw [hml]; rfl) (argsL := [(.ref va), (.ref vb)]) (rest := []) (lenOf pd25 rfl) rfl (Nat.le_of_eq rfl) (hb hby d19_44) (fun _ _ => ⟨rfl, e7, (by decide : 0 + 0 ≤ _), (by decide : 0 + 0 ≤ _)⟩)
  dsimp only [Pt.U, Pt.locs, Pt.cells, Pt.slots] at X8 l8 y8 z8 st8 hQ8
  subst l8 y8 z8
  obtain ⟨rfl, N8q, e8⟩ := hQ8
  have N8 := Fr.app N0 N8q
  obtain ⟨fsZ, hrZ, hrun, hended, hW, hsame⟩ := X8.leave (v := some (.int 1)) (fun h => by rw [Bd.returns] at h; cases h)
  refine ⟨_, _, pre0 _ ?_, hrun, hended, _, _, rfl, ?_, ⟨_, rfl⟩, hW, hsame.mono (by decide) (by decide)⟩
  · show Steps _ _ _ (s₁.setTop (mkF m 0 #[.val (.ref a1), .val (.ref a2), .unset] [])) _
    refine XS.aloadN X0.here hx rfl (hb hby d19_0) rfl rfl ?_
    refine XS.aloadN X0.here hx rfl (hb hby d19_1) rfl rfl ?_
    show Steps _ _ _ (s₁.setTop (mkF m 2 #[.val (.ref a1), .val (.ref a2), .unset] [(.ref a2), (.ref a1)])) _
    refine Jvm.RoadKit.acmp (g := (mkF m 2 #[.val (.ref a1), .val (.ref a2), .unset] [(.ref a2), (.ref a1)])) X0 hx rfl rfl rfl (pc0 := 2) (pc' := 7) (same := false) rfl (hb hby d19_2) rfl (decide_eq_false fun q => nx1 (Value.ref.inj q)) (by decide) (by decide) ?_
    refine XS.aloadN X0.here hx rfl (hb hby d19_7) rfl rfl ?_
    show Steps _ _ _ (s₁.setTop (mkF m 8 #[.val (.ref a1), .val (.ref a2), .unset] [(.ref a2)])) _
    refine st1 _ ?_
    refine XS.ifNo X1.here hx rfl (hb hby d19_11) rfl ((if0 _ _).trans (feq (by decide)).1) ?_
    refine XS.aloadN X1.here hx rfl (hb hby d19_14) rfl rfl ?_
    show Steps _ _ _ (T1.setTop (mkF m 15 #[.val (.ref a1), .val (.ref a2), .unset] [(.ref a2)])) _
    refine st2 _ ?_
    refine XS.astoreN X2.here hx rfl (hb hby d19_18) rfl rfl (l' := #[.val (.ref a1), .val (.ref a2), .val (.ref a2)]) rfl ?_
    show Steps _ _ _ (T2.setTop (mkF m 19 #[.val (.ref a1), .val (.ref a2), .val (.ref a2)] [])) _
    refine st3 _ ?_
    refine XS.ifNo X3.here hx rfl (hb hby d19_22) rfl ((if0 _ _).trans (feq hcs).1) ?_
    refine XS.aloadN X3.here hx rfl (hb hby d19_25) rfl rfl ?_
    show Steps _ _ _ (T3.setTop (mkF m 26 #[.val (.ref a1), .val (.ref a2), .val (.ref a2)] [(.ref a1)])) _
    refine st4 _ ?_
    refine XS.aloadN X4.here hx rfl (hb hby d19_29) rfl rfl ?_
    show Steps _ _ _ (T4.setTop (mkF m 30 #[.val (.ref a1), .val (.ref a2), .val (.ref a2)] [(.ref a2), (.int 0)])) _
    refine st5 _ ?_
    refine XS.icmpNo X5.here hx rfl (hb hby d19_33) rfl (teq (by decide)).2 ?_
    refine XS.aloadN X5.here hx rfl (hb hby d19_36) rfl rfl ?_
    show Steps _ _ _ (T5.setTop (mkF m 37 #[.val (.ref a1), .val (.ref a2), .val (.ref a2)] [(.ref a1)])) _
    refine st6 _ ?_
    refine XS.aloadN X6.here hx rfl (hb hby d19_40) rfl rfl ?_
    show Steps _ _ _ (T6.setTop (mkF m 41 #[.val (.ref a1), .val (.ref a2), .val (.ref a2)] [(.ref a2), (.ref va)])) _
    refine st7 _ ?_
    show Steps _ _ _ (T7.setTop (mkF m 44 #[.val (.ref a1), .val (.ref a2), .val (.ref a2)] [(.ref vb), (.ref va)])) _
    refine st8 _ ?_
    refine XS.ifNo X8.here hx rfl (hb hby d19_47) rfl ((if0 _ _).trans (feq (by decide)).1) ?_
    refine XS.iconst X8.here hx rfl (hb hby d19_50) ?_
    refine XS.goto X8.here hx rfl (pc0 := 51) (pc' := 55) rfl (hb hby d19_51) (by decide) (by decide) ?_
    show Steps _ _ _ (T8.setTop (mkF m 55 #[.val (.ref a1), .val (.ref a2), .val (.ref a2)] [(.int 1)])) _
    exact retN X8 hx (t := .boolean) Bd.returns (by simp) (hb hby d19_55) hrZ
  · show Q19n4 Z a1 a2 va kv vb kb y0 y1 y2 y3 cs h0 n0 _ T8.heap _
    rw [e8]
    exact ⟨rfl, N8, rfl⟩
theorem pn26 : plainName "java/lang/StringUTF16" = true := by first | (simp [plainName, overriddenIn]; done) | decide +kernel
theorem d27_0 : decode jdk_52_method_21_code 0 = .ok (.iconst 0, 1) := by decide +kernel
theorem d27_1 : decode jdk_52_method_21_code 1 = .ok (.istore 5, 2) := by decide +kernel
theorem d27_3 : decode jdk_52_method_21_code 3 = .ok (.iload 5, 2) := by decide +kernel
theorem d27_5 : decode jdk_52_method_21_code 5 = .ok (.iload 4, 2) := by decide +kernel
theorem d27_7 : decode jdk_52_method_21_code 7 = .ok (.if_icmp .ge 37, 3) := by decide +kernel
theorem d27_10 : decode jdk_52_method_21_code 10 = .ok (.aload_n 0, 1) := by decide +kernel
theorem d27_11 : decode jdk_52_method_21_code 11 = .ok (.iload_n 1, 1) := by decide +kernel
theorem d27_12 : decode jdk_52_method_21_code 12 = .ok (.caload, 1) := by decide +kernel
theorem d27_13 : decode jdk_52_method_21_code 13 = .ok (.istore 6, 2) := by decide +kernel
theorem d27_15 : decode jdk_52_method_21_code 15 = .ok (.iload 6, 2) := by decide +kernel
theorem d27_17 : decode jdk_52_method_21_code 17 = .ok (.sipush 255, 3) := by decide +kernel
theorem d27_20 : decode jdk_52_method_21_code 20 = .ok (.if_icmp .le 6, 3) := by decide +kernel
theorem d27_26 : decode jdk_52_method_21_code 26 = .ok (.aload_n 2, 1) := by decide +kernel
theorem d27_27 : decode jdk_52_method_21_code 27 = .ok (.iload_n 3, 1) := by decide +kernel
theorem d27_28 : decode jdk_52_method_21_code 28 = .ok (.iload 6, 2) := by decide +kernel
theorem d27_30 : decode jdk_52_method_21_code 30 = .ok (.i2b, 1) := by decide +kernel
theorem d27_31 : decode jdk_52_method_21_code 31 = .ok (.bastore, 1) := by decide +kernel
theorem d27_32 : decode jdk_52_method_21_code 32 = .ok (.iinc 1 1, 3) := by decide +kernel
theorem d27_35 : decode jdk_52_method_21_code 35 = .ok (.iinc 3 1, 3) := by decide +kernel
theorem d27_38 : decode jdk_52_method_21_code 38 = .ok (.iinc 5 1, 3) := by decide +kernel
theorem d27_41 : decode jdk_52_method_21_code 41 = .ok (.goto (-38), 3) := by decide +kernel
theorem d27_44 : decode jdk_52_method_21_code 44 = .ok (.iload 4, 2) := by decide +kernel
theorem d27_46 : decode jdk_52_method_21_code 46 = .ok (.ireturn, 1) := by decide +kernel
theorem ef27n2 (m : MethodId) (ca : Addr) (va : Addr) : entryFrame m #[(.ref ca), (.int 0), (.ref va), (.int 0), (.int 2)] 7 = mkF m 0 #[.val (.ref ca), .val (.int 0), .val (.ref va), .val (.int 0), .val (.int 2), .unset, .unset] [] := by first | (simp [entryFrame, mkF, argsToLocals, Value.category]; done) | rfl
def Q27n2 (Z : State) (ca : Addr) (va : Addr) (kc : ClassId) (kv : ClassId) (y0 : Int32) (y1 : Int32) (z0 : Int32) (z1 : Int32) (h0 : Heap) (n0 : Nat) (v : Option Value) (h : Heap) (L : List Loc) : Prop := v = some (.int 2) ∧ Fr n0 L ∧ Keep h0 h [va] ∧ Arv Z h va kv .byte (2 : Int32) [(.int y0), (.int y1)] (.int 0)
theorem rm27n2 (l : Launch) (Z : State) (a0 : Array Value) (hw : ∀ d ∈ tables_1, d.before a0 Z = true) (ws : List Jvm.Cond) (ca : Addr) (va : Addr) (kc : ClassId) (kv : ClassId) (y0 : Int32) (y1 : Int32) (z0 : Int32) (z1 : Int32) (h0 : Heap) (n0 : Nat) (Z0 : n0 ≤ h0.size) (Vx1 : Arv Z h0 ca kc .char (2 : Int32) [(.int y0), (.int y1)] (.int 0)) (Vx2 : Arv Z h0 va kv .byte (2 : Int32) [(.int z0), (.int z1)] (.int 0)) (nx1 : ca ≠ va) (gx1 : n0 ≤ va) (l0 : ¬ ((255 : Int32) < y0)) (l1 : ¬ ((255 : Int32) < y1)) (m0 : (y0.toInt8.toInt32) = y0) (m1 : (y1.toInt8.toInt32) = y1) :
    MetFree l oM31 (head1 (Jvm.Cond.code oM31 jdk_52_method_21_code 7 (some .int) :: ws) oR1) (fun a U => a = #[(.ref ca), (.int 0), (.ref va), (.int 0), (.int 2)] ∧ Z.Warmed39 U.vm ∧ U.heap = h0) (fun _ _ _ _ _ => True) (fun _ U o U' => ∃ v L, o = .returned v ∧ Q27n2 Z ca va kc kv y0 y1 z0 z1 h0 n0 v U'.heap L ∧ FrameEnd U o U' L oR1.cells oR1.slots) := by
  refine MetFree.of_bodySF (plainFor_of_name pn26) hisR ?_
  intro p e s m args below meth c s₁ Bd hml0 hP hK
  obtain ⟨rfl, hZ, hh⟩ := hP
  have hx := Bd.exec
  have hby := Bd.bytes
  have hml : c.maxLocals = 7 := hml0
  have hown : s.vm.findClass "java/lang/StringUTF16" = some m.cls := findClass_of_methodNamed Bd.named
  have hnm := (name_of_methodNamed Bd.named Bd.method).1
  have X0 : Stand p l e oR1 s m #[(.ref ca), (.int 0), (.ref va), (.int 0), (.int 2)] below meth c s₁ [] 0 0 := Stand.of_body Bd
  have e0 : s₁.heap = h0 := by rw [← hh, Bd.state]; rfl
  have N0 := Fr.nil n0
  have pre0 : ∀ tZ, Steps p.tables e below (s₁.setTop (mkF m 0 #[.val (.ref ca), .val (.int 0), .val (.ref va), .val (.int 0), .val (.int 2), .unset, .unset] [])) tZ → Steps p.tables e below (s₁.setTop (entryFrame m #[(.ref ca), (.int 0), (.ref va), (.int 0), (.int 2)] 7)) tZ := fun tZ kZ => castTop (ef27n2 m ca va) kZ
  obtain ⟨c1, Arc1, qc1, Sc1, Mc1, Hc1, Gc1⟩ := id Vx1
  have hinc1 : ¬ ((0 : Int32) < 0 ∨ c1.slots.size ≤ ((0 : Int32)).toNatClampNeg) := inb_of Sc1 ⟨by decide, by decide⟩
  have hatc1 : c1.slots[((0 : Int32)).toNatClampNeg]? = some (.int y0) := Hc1.at hinc1 rfl
  obtain ⟨c2, Arc2, qc2, Sc2, Mc2, Hc2, Gc2⟩ := id Vx2
  have hinc2 : ¬ ((0 : Int32) < 0 ∨ c2.slots.size ≤ ((0 : Int32)).toNatClampNeg) := inb_of Sc2 ⟨by decide, by decide⟩
  obtain ⟨T3, h3, X3, e3, W3, st3⟩ := stB X0 hx hZ e0 Arc2 (j := (0 : Int32)) hinc2  (g := (mkF m 31 #[.val (.ref ca), .val (.int 0), .val (.ref va), .val (.int 0), .val (.int 2), .val (.int 0), .val (.int y0)] [(.int (y0.toInt8.toInt32)), (.int 0), (.ref va)])) rfl rfl (hb hby d27_31)
  have V3 : Arv Z h3 va kv .byte (2 : Int32) [(.int ((y0.toInt8.toInt32).toInt8.toInt32)), (.int z1)] (.int 0) := Arv.set Arc2 qc2 Sc2 Mc2 Hc2 Gc2 (fits_nar_byte _) W3 0 rfl (Nat.le_of_ble_eq_true rfl)
  have Z4 : n0 ≤ h3.size := Nat.le_trans Z0 (Nat.le_of_eq W3.size.symm)
  have K5 : Keep h0 h3 [va] := (Keep.refl h0 [va]).wr W3 (Or.inl (List.mem_of_getElem? (i := 0) rfl))
  have N3 := Fr.snoc X3 N0 gx1
  have fa6 := (Vx1.other W3 nx1)
  obtain ⟨c7, Arc7, qc7, Sc7, Mc7, Hc7, Gc7⟩ := id fa6
  have hinc7 : ¬ ((1 : Int32) < 0 ∨ c7.slots.size ≤ ((1 : Int32)).toNatClampNeg) := inb_of Sc7 ⟨by decide, by decide⟩
  have hatc7 : c7.slots[((1 : Int32)).toNatClampNeg]? = some (.int y1) := Hc7.at hinc7 rfl
  obtain ⟨c8, Arc8, qc8, Sc8, Mc8, Hc8, Gc8⟩ := id V3
  have hinc8 : ¬ ((1 : Int32) < 0 ∨ c8.slots.size ≤ ((1 : Int32)).toNatClampNeg) := inb_of Sc8 ⟨by decide, by decide⟩
  obtain ⟨T9, h9, X9, e9, W9, st9⟩ := stB X3 hx hZ e3 Arc8 (j := (1 : Int32)) hinc8  (g := (mkF m 31 #[.val (.ref ca), .val (.int 1), .val (.ref va), .val (.int 1), .val (.int 2), .val (.int 1), .val (.int y1)] [(.int (y1.toInt8.toInt32)), (.int 1), (.ref va)])) rfl rfl (hb hby d27_31)
  have V9 : Arv Z h9 va kv .byte (2 : Int32) [(.int ((y0.toInt8.toInt32).toInt8.toInt32)), (.int ((y1.toInt8.toInt32).toInt8.toInt32))] (.int 0) := Arv.set Arc8 qc8 Sc8 Mc8 Hc8 Gc8 (fits_nar_byte _) W9 1 rfl (Nat.le_of_ble_eq_true rfl)
  have Z10 : n0 ≤ h9.size := Nat.le_trans Z4 (Nat.le_of_eq W9.size.symm)
  have K11 : Keep h0 h9 [va] := K5.wr W9 (Or.inl (List.mem_of_getElem? (i := 0) rfl))
  have N9 := Fr.snoc X9 N3 gx1
  obtain ⟨fsZ, hrZ, hrun, hended, hW, hsame⟩ := X9.leave (v := some (.int 2)) (fun h => by rw [Bd.returns] at h; cases h)
  refine ⟨_, _, pre0 _ ?_, hrun, hended, _, _, rfl, ?_, ⟨_, rfl⟩, hW, hsame.mono (by decide) (by decide)⟩
  · show Steps _ _ _ (s₁.setTop (mkF m 0 #[.val (.ref ca), .val (.int 0), .val (.ref va), .val (.int 0), .val (.int 2), .unset, .unset] [])) _
    refine XS.iconst X0.here hx rfl (hb hby d27_0) ?_
    refine XS.istore X0.here hx rfl (hb hby d27_1) rfl (l' := #[.val (.ref ca), .val (.int 0), .val (.ref va), .val (.int 0), .val (.int 2), .val (.int 0), .unset]) rfl ?_
    refine XS.iload X0.here hx rfl (hb hby d27_3) rfl  ?_
    refine XS.iload X0.here hx rfl (hb hby d27_5) rfl  ?_
    refine XS.icmpNo X0.here hx rfl (hb hby d27_7) rfl (tlt (by decide)).2.1 ?_
    refine XS.aloadN X0.here hx rfl (hb hby d27_10) rfl rfl ?_
    refine XS.iloadN X0.here hx rfl (hb hby d27_11) rfl  ?_
    show Steps _ _ _ (s₁.setTop (mkF m 12 #[.val (.ref ca), .val (.int 0), .val (.ref va), .val (.int 0), .val (.int 2), .val (.int 0), .unset] [(.int 0), (.ref ca)])) _
    refine X0.caload hx (j := (0 : Int32)) (v := (.int y0)) (by rw [e0]; exact Arc1.1) (State.isArrayOf_alike hZ.alike Arc1.2.1) Arc1.2.2 hinc1 hatc1 (g := (mkF m 12 #[.val (.ref ca), .val (.int 0), .val (.ref va), .val (.int 0), .val (.int 2), .val (.int 0), .unset] [(.int 0), (.ref ca)])) rfl rfl (hb hby d27_12) _ ?_
    refine XS.istore X0.here hx rfl (hb hby d27_13) rfl (l' := #[.val (.ref ca), .val (.int 0), .val (.ref va), .val (.int 0), .val (.int 2), .val (.int 0), .val (.int y0)]) rfl ?_
    refine XS.iload X0.here hx rfl (hb hby d27_15) rfl  ?_
    refine XS.sipush X0.here hx rfl (hb hby d27_17) ?_
    refine XS.icmpYes X0.here hx rfl (pc0 := 20) (pc' := 26) rfl (hb hby d27_20) rfl (flt l0).2.2.2 (by decide) (by decide) ?_
    refine XS.aloadN X0.here hx rfl (hb hby d27_26) rfl rfl ?_
    refine XS.iloadN X0.here hx rfl (hb hby d27_27) rfl  ?_
    refine XS.iload X0.here hx rfl (hb hby d27_28) rfl  ?_
    show Steps _ _ _ (s₁.setTop (mkF m 30 #[.val (.ref ca), .val (.int 0), .val (.ref va), .val (.int 0), .val (.int 2), .val (.int 0), .val (.int y0)] [(.int y0), (.int 0), (.ref va)])) _
    refine XS.i2b X0.here hx rfl (hb hby d27_30) rfl ?_
    show Steps _ _ _ (s₁.setTop (mkF m 31 #[.val (.ref ca), .val (.int 0), .val (.ref va), .val (.int 0), .val (.int 2), .val (.int 0), .val (.int y0)] [(.int (y0.toInt8.toInt32)), (.int 0), (.ref va)])) _
    refine st3 _ ?_
    refine XS.iinc X3.here hx rfl (hb hby d27_32) rfl (l' := #[.val (.ref ca), .val (.int ((0 : Int32) + (1 : Int32))), .val (.ref va), .val (.int 0), .val (.int 2), .val (.int 0), .val (.int y0)]) rfl ?_
    show Steps _ _ _ (T3.setTop (mkF m 35 #[.val (.ref ca), .val (.int ((0 : Int32) + (1 : Int32))), .val (.ref va), .val (.int 0), .val (.int 2), .val (.int 0), .val (.int y0)] [])) _
    rw [show ((0 : Int32) + (1 : Int32)) = (1 : Int32) from by decide]
    show Steps _ _ _ (T3.setTop (mkF m 35 #[.val (.ref ca), .val (.int 1), .val (.ref va), .val (.int 0), .val (.int 2), .val (.int 0), .val (.int y0)] [])) _
    refine XS.iinc X3.here hx rfl (hb hby d27_35) rfl (l' := #[.val (.ref ca), .val (.int 1), .val (.ref va), .val (.int ((0 : Int32) + (1 : Int32))), .val (.int 2), .val (.int 0), .val (.int y0)]) rfl ?_
    show Steps _ _ _ (T3.setTop (mkF m 38 #[.val (.ref ca), .val (.int 1), .val (.ref va), .val (.int ((0 : Int32) + (1 : Int32))), .val (.int 2), .val (.int 0), .val (.int y0)] [])) _
    rw [show ((0 : Int32) + (1 : Int32)) = (1 : Int32) from by decide]
    show Steps _ _ _ (T3.setTop (mkF m 38 #[.val (.ref ca), .val (.int 1), .val (.ref va), .val (.int 1), .val (.int 2), .val (.int 0), .val (.int y0)] [])) _
    refine XS.iinc X3.here hx rfl (hb hby d27_38) rfl (l' := #[.val (.ref ca), .val (.int 1), .val (.ref va), .val (.int 1), .val (.int 2), .val (.int ((0 : Int32) + (1 : Int32))), .val (.int y0)]) rfl ?_
    show Steps _ _ _ (T3.setTop (mkF m 41 #[.val (.ref ca), .val (.int 1), .val (.ref va), .val (.int 1), .val (.int 2), .val (.int ((0 : Int32) + (1 : Int32))), .val (.int y0)] [])) _
    rw [show ((0 : Int32) + (1 : Int32)) = (1 : Int32) from by decide]
    show Steps _ _ _ (T3.setTop (mkF m 41 #[.val (.ref ca), .val (.int 1), .val (.ref va), .val (.int 1), .val (.int 2), .val (.int 1), .val (.int y0)] [])) _
    refine XS.goto X3.here hx rfl (pc0 := 41) (pc' := 3) rfl (hb hby d27_41) (by decide) (by decide) ?_
    refine XS.iload X3.here hx rfl (hb hby d27_3) rfl  ?_
    refine XS.iload X3.here hx rfl (hb hby d27_5) rfl  ?_
    refine XS.icmpNo X3.here hx rfl (hb hby d27_7) rfl (tlt (by decide)).2.1 ?_
    refine XS.aloadN X3.here hx rfl (hb hby d27_10) rfl rfl ?_
    refine XS.iloadN X3.here hx rfl (hb hby d27_11) rfl  ?_
    show Steps _ _ _ (T3.setTop (mkF m 12 #[.val (.ref ca), .val (.int 1), .val (.ref va), .val (.int 1), .val (.int 2), .val (.int 1), .val (.int y0)] [(.int 1), (.ref ca)])) _
    refine X3.caload hx (j := (1 : Int32)) (v := (.int y1)) (by rw [e3]; exact Arc7.1) (State.isArrayOf_alike hZ.alike Arc7.2.1) Arc7.2.2 hinc7 hatc7 (g := (mkF m 12 #[.val (.ref ca), .val (.int 1), .val (.ref va), .val (.int 1), .val (.int 2), .val (.int 1), .val (.int y0)] [(.int 1), (.ref ca)])) rfl rfl (hb hby d27_12) _ ?_
    refine XS.istore X3.here hx rfl (hb hby d27_13) rfl (l' := #[.val (.ref ca), .val (.int 1), .val (.ref va), .val (.int 1), .val (.int 2), .val (.int 1), .val (.int y1)]) rfl ?_
    refine XS.iload X3.here hx rfl (hb hby d27_15) rfl  ?_
    refine XS.sipush X3.here hx rfl (hb hby d27_17) ?_
    refine XS.icmpYes X3.here hx rfl (pc0 := 20) (pc' := 26) rfl (hb hby d27_20) rfl (flt l1).2.2.2 (by decide) (by decide) ?_
    refine XS.aloadN X3.here hx rfl (hb hby d27_26) rfl rfl ?_
    refine XS.iloadN X3.here hx rfl (hb hby d27_27) rfl  ?_
    refine XS.iload X3.here hx rfl (hb hby d27_28) rfl  ?_
    show Steps _ _ _ (T3.setTop (mkF m 30 #[.val (.ref ca), .val (.int 1), .val (.ref va), .val (.int 1), .val (.int 2), .val (.int 1), .val (.int y1)] [(.int y1), (.int 1), (.ref va)])) _
    refine XS.i2b X3.here hx rfl (hb hby d27_30) rfl ?_
    show Steps _ _ _ (T3.setTop (mkF m 31 #[.val (.ref ca), .val (.int 1), .val (.ref va), .val (.int 1), .val (.int 2), .val (.int 1), .val (.int y1)] [(.int (y1.toInt8.toInt32)), (.int 1), (.ref va)])) _
    refine st9 _ ?_
    refine XS.iinc X9.here hx rfl (hb hby d27_32) rfl (l' := #[.val (.ref ca), .val (.int ((1 : Int32) + (1 : Int32))), .val (.ref va), .val (.int 1), .val (.int 2), .val (.int 1), .val (.int y1)]) rfl ?_
    show Steps _ _ _ (T9.setTop (mkF m 35 #[.val (.ref ca), .val (.int ((1 : Int32) + (1 : Int32))), .val (.ref va), .val (.int 1), .val (.int 2), .val (.int 1), .val (.int y1)] [])) _
    rw [show ((1 : Int32) + (1 : Int32)) = (2 : Int32) from by decide]
    show Steps _ _ _ (T9.setTop (mkF m 35 #[.val (.ref ca), .val (.int 2), .val (.ref va), .val (.int 1), .val (.int 2), .val (.int 1), .val (.int y1)] [])) _
    refine XS.iinc X9.here hx rfl (hb hby d27_35) rfl (l' := #[.val (.ref ca), .val (.int 2), .val (.ref va), .val (.int ((1 : Int32) + (1 : Int32))), .val (.int 2), .val (.int 1), .val (.int y1)]) rfl ?_
    show Steps _ _ _ (T9.setTop (mkF m 38 #[.val (.ref ca), .val (.int 2), .val (.ref va), .val (.int ((1 : Int32) + (1 : Int32))), .val (.int 2), .val (.int 1), .val (.int y1)] [])) _
    rw [show ((1 : Int32) + (1 : Int32)) = (2 : Int32) from by decide]
    show Steps _ _ _ (T9.setTop (mkF m 38 #[.val (.ref ca), .val (.int 2), .val (.ref va), .val (.int 2), .val (.int 2), .val (.int 1), .val (.int y1)] [])) _
    refine XS.iinc X9.here hx rfl (hb hby d27_38) rfl (l' := #[.val (.ref ca), .val (.int 2), .val (.ref va), .val (.int 2), .val (.int 2), .val (.int ((1 : Int32) + (1 : Int32))), .val (.int y1)]) rfl ?_
    show Steps _ _ _ (T9.setTop (mkF m 41 #[.val (.ref ca), .val (.int 2), .val (.ref va), .val (.int 2), .val (.int 2), .val (.int ((1 : Int32) + (1 : Int32))), .val (.int y1)] [])) _
    rw [show ((1 : Int32) + (1 : Int32)) = (2 : Int32) from by decide]
    show Steps _ _ _ (T9.setTop (mkF m 41 #[.val (.ref ca), .val (.int 2), .val (.ref va), .val (.int 2), .val (.int 2), .val (.int 2), .val (.int y1)] [])) _
    refine XS.goto X9.here hx rfl (pc0 := 41) (pc' := 3) rfl (hb hby d27_41) (by decide) (by decide) ?_
    refine XS.iload X9.here hx rfl (hb hby d27_3) rfl  ?_
    refine XS.iload X9.here hx rfl (hb hby d27_5) rfl  ?_
    refine XS.icmpYes X9.here hx rfl (pc0 := 7) (pc' := 44) rfl (hb hby d27_7) rfl (flt (by decide)).2.1 (by decide) (by decide) ?_
    refine XS.iload X9.here hx rfl (hb hby d27_44) rfl  ?_
    show Steps _ _ _ (T9.setTop (mkF m 46 #[.val (.ref ca), .val (.int 2), .val (.ref va), .val (.int 2), .val (.int 2), .val (.int 2), .val (.int y1)] [(.int 2)])) _
    exact retI X9 hx Bd.returns (hb hby d27_46) hrZ
  · show Q27n2 Z ca va kc kv y0 y1 z0 z1 h0 n0 _ T9.heap _
    rw [e9]
    exact ⟨rfl, N9, K11, (by have q := V9; simp only [m0, m1] at q; exact q)⟩
theorem d26_0 : decode jdk_52_method_16_code 0 = .ok (.iload_n 2, 1) := by decide +kernel
theorem d26_1 : decode jdk_52_method_16_code 1 = .ok (.newarray .byte, 2) := by decide +kernel
theorem d26_3 : decode jdk_52_method_16_code 3 = .ok (.astore_n 3, 1) := by decide +kernel
theorem d26_4 : decode jdk_52_method_16_code 4 = .ok (.aload_n 0, 1) := by decide +kernel
theorem d26_5 : decode jdk_52_method_16_code 5 = .ok (.iload_n 1, 1) := by decide +kernel
theorem d26_6 : decode jdk_52_method_16_code 6 = .ok (.aload_n 3, 1) := by decide +kernel
theorem d26_7 : decode jdk_52_method_16_code 7 = .ok (.iconst 0, 1) := by decide +kernel
theorem d26_8 : decode jdk_52_method_16_code 8 = .ok (.iload_n 2, 1) := by decide +kernel
theorem d26_9 : decode jdk_52_method_16_code 9 = .ok (.invokestatic 115, 3) := by decide +kernel
theorem pd27 : parseMethodDescriptor "([CI[BII)I" = some ⟨[(.array .char), .int, (.array .byte), .int, .int], some .int⟩ := by decide +kernel
theorem d26_12 : decode jdk_52_method_16_code 12 = .ok (.istore 4, 2) := by decide +kernel
theorem d26_14 : decode jdk_52_method_16_code 14 = .ok (.iload 4, 2) := by decide +kernel
theorem d26_16 : decode jdk_52_method_16_code 16 = .ok (.iload_n 2, 1) := by decide +kernel
theorem d26_17 : decode jdk_52_method_16_code 17 = .ok (.if_icmp .eq 40, 3) := by decide +kernel
theorem d26_57 : decode jdk_52_method_16_code 57 = .ok (.aload_n 3, 1) := by decide +kernel
theorem d26_58 : decode jdk_52_method_16_code 58 = .ok (.areturn, 1) := by decide +kernel
theorem ef26n2 (m : MethodId) (ca : Addr) : entryFrame m #[(.ref ca), (.int 0), (.int 2)] 6 = mkF m 0 #[.val (.ref ca), .val (.int 0), .val (.int 2), .unset, .unset, .unset] [] := by first | (simp [entryFrame, mkF, argsToLocals, Value.category]; done) | rfl
def Q26n2 (Z : State) (ca : Addr) (kc : ClassId) (y0 : Int32) (y1 : Int32) (h0 : Heap) (n0 : Nat) (v : Option Value) (h : Heap) (L : List Loc) : Prop := ∃ (va : Addr) (kv : ClassId), v = some (.ref va) ∧ Fr n0 L ∧ Keep h0 h [] ∧ n0 ≤ va ∧ h0.size ≤ va ∧ Arv Z h va kv .byte (2 : Int32) [(.int y0), (.int y1)] (.int 0)
theorem rm26n2 (l : Launch) (Z : State) (a0 : Array Value) (hw : ∀ d ∈ tables_1, d.before a0 Z = true) (ws : List Jvm.Cond) (ca : Addr) (kc : ClassId) (y0 : Int32) (y1 : Int32) (h0 : Heap) (n0 : Nat) (Z0 : n0 ≤ h0.size) (Vx1 : Arv Z h0 ca kc .char (2 : Int32) [(.int y0), (.int y1)] (.int 0)) (l0 : ¬ ((255 : Int32) < y0)) (l1 : ¬ ((255 : Int32) < y1)) (m0 : (y0.toInt8.toInt32) = y0) (m1 : (y1.toInt8.toInt32) = y1) :
    MetFree l oM32 (head1 (Jvm.Cond.code oM32 jdk_52_method_16_code 6 (some (.array .byte)) :: ws) oR28) (fun a U => a = #[(.ref ca), (.int 0), (.int 2)] ∧ Z.Warmed39 U.vm ∧ U.heap = h0) (fun _ _ _ _ _ => True) (fun _ U o U' => ∃ v L, o = .returned v ∧ Q26n2 Z ca kc y0 y1 h0 n0 v U'.heap L ∧ FrameEnd U o U' L oR28.cells oR28.slots) := by
  refine MetFree.of_bodySF (plainFor_of_name pn26) hisR ?_
  intro p e s m args below meth c s₁ Bd hml0 hP hK
  obtain ⟨rfl, hZ, hh⟩ := hP
  have hx := Bd.exec
  have hby := Bd.bytes
  have hml : c.maxLocals = 6 := hml0
  have hown : s.vm.findClass "java/lang/StringUTF16" = some m.cls := findClass_of_methodNamed Bd.named
  have hnm := (name_of_methodNamed Bd.named Bd.method).1
  have X0 : Stand p l e oR28 s m #[(.ref ca), (.int 0), (.int 2)] below meth c s₁ [] 0 0 := Stand.of_body Bd
  have e0 : s₁.heap = h0 := by rw [← hh, Bd.state]; rfl
  have N0 := Fr.nil n0
  have pre0 : ∀ tZ, Steps p.tables e below (s₁.setTop (mkF m 0 #[.val (.ref ca), .val (.int 0), .val (.int 2), .unset, .unset, .unset] [])) tZ → Steps p.tables e below (s₁.setTop (entryFrame m #[(.ref ca), (.int 0), (.int 2)] 6)) tZ := fun tZ kZ => castTop (ef26n2 m ca) kZ
  obtain ⟨T1, h1, k1, X1, e1, E1, A1, st1⟩ := newP X0 hx hZ (ow hw 4 rfl) e0 (g := (mkF m 1 #[.val (.ref ca), .val (.int 0), .val (.int 2), .unset, .unset, .unset] [(.int 2)])) rfl (hb hby d26_1) rfl (by decide) (cap := 2) (by decide) (by decide) (by decide) (by decide)
  obtain ⟨b1, g1⟩ : ∃ z, z = h0.size := ⟨_, rfl⟩
  rw [← g1] at A1 st1
  have ne2 : ca ≠ b1 := Nat.ne_of_lt (Nat.lt_of_lt_of_le Vx1.lt (Nat.le_of_eq g1.symm))
  have gn_b1 : n0 ≤ b1 := Nat.le_trans Z0 (Nat.le_of_eq g1.symm)
  have sz_b1 : h0.size ≤ b1 := Nat.le_trans (Keep.refl h0 []).1 (Nat.le_of_eq g1.symm)
  have Z3 : n0 ≤ h1.size := Nat.le_trans Z0 E1.1
  have K4 : Keep h0 h1 [] := (Keep.refl h0 []).ext E1
  have V1 : Arv Z h1 b1 k1 .byte (2 : Int32) [(.int 0), (.int 0)] (.int 0) := (Arv.new A1 (by decide)).pad (pad_rep [] (.int 0) 2)
  have fa5 := (Vx1.ext E1)
  obtain ⟨_, _, ⟨T6, L6, k6, n6⟩, -, X6, ⟨Lc6, hQ6, l6, y6, z6⟩, st6⟩ := Jvm.LawKit.callS X1 hx (y := oM31) hown (mvT hZ (ow hw 152 rfl)) (mvT hZ (ow hw 153 rfl)) (mvT hZ (ow hw 150 rfl)) (mvT hZ (ow hw 154 rfl)) (by decide) (backOf (W := 0) (rm27n2 l Z a0 hw [] ca b1 kc k1 y0 y1 (0 : Int32) (0 : Int32) h1 n0 Z3 fa5 V1 ne2 gn_b1 (by first | assumption | decide | omega) (by first | assumption | decide | omega) (by first | assumption | decide | omega) (by first | assumption | decide | omega)) hZ (ow hw 154 rfl) (ow hw 150 rfl) (by decide) (by decide)) (g := (mkF m 9 #[.val (.ref ca), .val (.int 0), .val (.int 2), .val (.ref b1), .unset, .unset] [(.int 2), (.int 0), (.ref b1), (.int 0), (.ref ca)])) rfl (by rw [hml]; rfl) (argsL := [(.ref ca), (.int 0), (.ref b1), (.int 0), (.int 2)]) (rest := []) (lenOf pd27 rfl) rfl (Nat.le_of_eq rfl) (hb hby d26_9) (fun _ _ => ⟨rfl, e1, (by decide : 1 + 0 ≤ _), (by decide : 2 + 0 ≤ _)⟩)
  dsimp only [Pt.U, Pt.locs, Pt.cells, Pt.slots] at X6 l6 y6 z6 st6 hQ6
  subst l6 y6 z6
  obtain ⟨rfl, N6q, K6, f6_0⟩ := hQ6
  have N6 := Fr.app N0 N6q
  have Z7 : n0 ≤ T6.heap.size := Nat.le_trans Z3 K6.1
  have K8 : Keep h0 T6.heap [] := K4.trans K6 (allS (P := fun x => x ∈ _ ∨ _) (Or.inr sz_b1) all0)
  obtain ⟨fsZ, hrZ, hrun, hended, hW, hsame⟩ := X6.leave (v := some (.ref b1)) (fun h => by rw [Bd.returns] at h; cases h)
  refine ⟨_, _, pre0 _ ?_, hrun, hended, _, _, rfl, ?_, ⟨_, rfl⟩, hW, hsame.mono (by decide) (by decide)⟩
  · show Steps _ _ _ (s₁.setTop (mkF m 0 #[.val (.ref ca), .val (.int 0), .val (.int 2), .unset, .unset, .unset] [])) _
    refine XS.iloadN X0.here hx rfl (hb hby d26_0) rfl  ?_
    show Steps _ _ _ (s₁.setTop (mkF m 1 #[.val (.ref ca), .val (.int 0), .val (.int 2), .unset, .unset, .unset] [(.int 2)])) _
    refine st1 _ ?_
    refine XS.astoreN X1.here hx rfl (hb hby d26_3) rfl rfl (l' := #[.val (.ref ca), .val (.int 0), .val (.int 2), .val (.ref b1), .unset, .unset]) rfl ?_
    refine XS.aloadN X1.here hx rfl (hb hby d26_4) rfl rfl ?_
    refine XS.iloadN X1.here hx rfl (hb hby d26_5) rfl  ?_
    refine XS.aloadN X1.here hx rfl (hb hby d26_6) rfl rfl ?_
    refine XS.iconst X1.here hx rfl (hb hby d26_7) ?_
    refine XS.iloadN X1.here hx rfl (hb hby d26_8) rfl  ?_
    show Steps _ _ _ (T1.setTop (mkF m 9 #[.val (.ref ca), .val (.int 0), .val (.int 2), .val (.ref b1), .unset, .unset] [(.int 2), (.int 0), (.ref b1), (.int 0), (.ref ca)])) _
    refine st6 _ ?_
    refine XS.istore X6.here hx rfl (hb hby d26_12) rfl (l' := #[.val (.ref ca), .val (.int 0), .val (.int 2), .val (.ref b1), .val (.int 2), .unset]) rfl ?_
    refine XS.iload X6.here hx rfl (hb hby d26_14) rfl  ?_
    refine XS.iloadN X6.here hx rfl (hb hby d26_16) rfl  ?_
    refine XS.icmpYes X6.here hx rfl (pc0 := 17) (pc' := 57) rfl (hb hby d26_17) rfl (teq (by decide)).1 (by decide) (by decide) ?_
    refine XS.aloadN X6.here hx rfl (hb hby d26_57) rfl rfl ?_
    show Steps _ _ _ (T6.setTop (mkF m 58 #[.val (.ref ca), .val (.int 0), .val (.int 2), .val (.ref b1), .val (.int 2), .unset] [(.ref b1)])) _
    jvm_step X6.here [X6.here.top, hx, (hb hby d26_58), X6.method', Bd.returns, Value.isRef, FieldType.isReference]
    first | (intro acts; rw [hrZ _ acts rfl rfl rfl]) | rw [hrZ _ _ rfl rfl rfl]
    exact Steps.refl _
  · show Q26n2 Z ca kc y0 y1 h0 n0 _ T6.heap _
    exact ⟨b1, k1, rfl, N6, K8, gn_b1, sz_b1, f6_0⟩
theorem d28_0 : decode jdk_52_method_15_code 0 = .ok (.iload_n 1, 1) := by decide +kernel
theorem d28_1 : decode jdk_52_method_15_code 1 = .ok (.aload_n 0, 1) := by decide +kernel
theorem d28_2 : decode jdk_52_method_15_code 2 = .ok (.arraylength, 1) := by decide +kernel
theorem d28_3 : decode jdk_52_method_15_code 3 = .ok (.isub, 1) := by decide +kernel
theorem d28_4 : decode jdk_52_method_15_code 4 = .ok (.bipush 31, 2) := by decide +kernel
theorem d28_6 : decode jdk_52_method_15_code 6 = .ok (.iushr, 1) := by decide +kernel
theorem d28_7 : decode jdk_52_method_15_code 7 = .ok (.i2b, 1) := by decide +kernel
theorem d28_8 : decode jdk_52_method_15_code 8 = .ok (.ireturn, 1) := by decide +kernel
theorem ef28n2 (m : MethodId) (va : Addr) : entryFrame m #[(.ref va), (.int 2)] 2 = mkF m 0 #[.val (.ref va), .val (.int 2)] [] := by first | (simp [entryFrame, mkF, argsToLocals, Value.category]; done) | rfl
def Q28n2 (Z : State) (va : Addr) (kv : ClassId) (y0 : Int32) (y1 : Int32) (h0 : Heap) (n0 : Nat) (v : Option Value) (h : Heap) (L : List Loc) : Prop := v = some (.int 0) ∧ Fr n0 L ∧ h = h0
theorem rm28n2 (l : Launch) (Z : State) (a0 : Array Value) (hw : ∀ d ∈ tables_1, d.before a0 Z = true) (ws : List Jvm.Cond) (va : Addr) (kv : ClassId) (y0 : Int32) (y1 : Int32) (h0 : Heap) (n0 : Nat) (Z0 : n0 ≤ h0.size) (Vx1 : Arv Z h0 va kv .byte (2 : Int32) [(.int y0), (.int y1)] (.int 0)) :
    MetFree l oM33 (head1 (Jvm.Cond.code oM33 jdk_52_method_15_code 2 (some .byte) :: ws) oR1) (fun a U => a = #[(.ref va), (.int 2)] ∧ Z.Warmed39 U.vm ∧ U.heap = h0) (fun _ _ _ _ _ => True) (fun _ U o U' => ∃ v L, o = .returned v ∧ Q28n2 Z va kv y0 y1 h0 n0 v U'.heap L ∧ FrameEnd U o U' L oR1.cells oR1.slots) := by
  refine MetFree.of_bodySF (plainFor_of_name pn26) hisR ?_
  intro p e s m args below meth c s₁ Bd hml0 hP hK
  obtain ⟨rfl, hZ, hh⟩ := hP
  have hx := Bd.exec
  have hby := Bd.bytes
  have hml : c.maxLocals = 2 := hml0
  have hown : s.vm.findClass "java/lang/StringUTF16" = some m.cls := findClass_of_methodNamed Bd.named
  have hnm := (name_of_methodNamed Bd.named Bd.method).1
  have X0 : Stand p l e oR1 s m #[(.ref va), (.int 2)] below meth c s₁ [] 0 0 := Stand.of_body Bd
  have e0 : s₁.heap = h0 := by rw [← hh, Bd.state]; rfl
  have N0 := Fr.nil n0
  have pre0 : ∀ tZ, Steps p.tables e below (s₁.setTop (mkF m 0 #[.val (.ref va), .val (.int 2)] [])) tZ → Steps p.tables e below (s₁.setTop (entryFrame m #[(.ref va), (.int 2)] 2)) tZ := fun tZ kZ => castTop (ef28n2 m va) kZ
  obtain ⟨c1, Arc1, -, Sc1, Mc1, -, -⟩ := id Vx1
  obtain ⟨fsZ, hrZ, hrun, hended, hW, hsame⟩ := X0.leave (v := some (.int 0)) (fun h => by rw [Bd.returns] at h; cases h)
  refine ⟨_, _, pre0 _ ?_, hrun, hended, _, _, rfl, ?_, ⟨_, rfl⟩, hW, hsame.mono (by decide) (by decide)⟩
  · show Steps _ _ _ (s₁.setTop (mkF m 0 #[.val (.ref va), .val (.int 2)] [])) _
    refine XS.iloadN X0.here hx rfl (hb hby d28_0) rfl  ?_
    refine XS.aloadN X0.here hx rfl (hb hby d28_1) rfl rfl ?_
    show Steps _ _ _ (s₁.setTop (mkF m 2 #[.val (.ref va), .val (.int 2)] [(.ref va), (.int 2)])) _
    refine X0.arraylength hx (by rw [e0]; exact Arc1.1) (State.isArrayOf_alike hZ.alike Arc1.2.1) (g := (mkF m 2 #[.val (.ref va), .val (.int 2)] [(.ref va), (.int 2)])) rfl rfl (hb hby d28_2) _ ?_
    rw [len_of Sc1 Mc1]
    show Steps _ _ _ (s₁.setTop (mkF m 3 #[.val (.ref va), .val (.int 2)] [(.int 2), (.int 2)])) _
    refine XS.isub X0.here hx rfl (hb hby d28_3) rfl ?_
    show Steps _ _ _ (s₁.setTop (mkF m 4 #[.val (.ref va), .val (.int 2)] [(.int ((2 : Int32) - (2 : Int32)))])) _
    rw [show ((2 : Int32) - (2 : Int32)) = (0 : Int32) from by decide]
    show Steps _ _ _ (s₁.setTop (mkF m 4 #[.val (.ref va), .val (.int 2)] [(.int 0)])) _
    refine XS.bipush X0.here hx rfl (hb hby d28_4) ?_
    refine XS.iushr X0.here hx rfl (hb hby d28_6) rfl ?_
    show Steps _ _ _ (s₁.setTop (mkF m 7 #[.val (.ref va), .val (.int 2)] [(.int (((0 : Int32).toUInt32 >>> ((31 : Int32) &&& 31).toUInt32).toInt32))])) _
    rw [show (((0 : Int32).toUInt32 >>> ((31 : Int32) &&& 31).toUInt32).toInt32) = (0 : Int32) from by decide]
    show Steps _ _ _ (s₁.setTop (mkF m 7 #[.val (.ref va), .val (.int 2)] [(.int 0)])) _
    refine XS.i2b X0.here hx rfl (hb hby d28_7) rfl ?_
    show Steps _ _ _ (s₁.setTop (mkF m 8 #[.val (.ref va), .val (.int 2)] [(.int ((0 : Int32).toInt8.toInt32))])) _
    rw [show ((0 : Int32).toInt8.toInt32) = (0 : Int32) from by decide]
    show Steps _ _ _ (s₁.setTop (mkF m 8 #[.val (.ref va), .val (.int 2)] [(.int 0)])) _
    exact retN X0 hx (t := .byte) Bd.returns (by simp) (hb hby d28_8) hrZ
  · show Q28n2 Z va kv y0 y1 h0 n0 _ s₁.heap _
    rw [e0]
    exact ⟨rfl, N0, rfl⟩
theorem d25_0 : decode jdk_42_method_149_code 0 = .ok (.aload_n 0, 1) := by decide +kernel
theorem d25_1 : decode jdk_42_method_149_code 1 = .ok (.invokespecial 1, 3) := by decide +kernel
theorem d25_4 : decode jdk_42_method_149_code 4 = .ok (.iload_n 3, 1) := by decide +kernel
theorem d25_5 : decode jdk_42_method_149_code 5 = .ok (.ifCond .ne 22, 3) := by decide +kernel
theorem d25_27 : decode jdk_42_method_149_code 27 = .ok (.getstatic 38, 3) := by decide +kernel
theorem d25_30 : decode jdk_42_method_149_code 30 = .ok (.ifCond .eq 28, 3) := by decide +kernel
theorem d25_33 : decode jdk_42_method_149_code 33 = .ok (.aload_n 1, 1) := by decide +kernel
theorem d25_34 : decode jdk_42_method_149_code 34 = .ok (.iload_n 2, 1) := by decide +kernel
theorem d25_35 : decode jdk_42_method_149_code 35 = .ok (.iload_n 3, 1) := by decide +kernel
theorem d25_36 : decode jdk_42_method_149_code 36 = .ok (.invokestatic 177, 3) := by decide +kernel
theorem pd28 : parseMethodDescriptor "([CII)[B" = some ⟨[(.array .char), .int, .int], some (.array .byte)⟩ := by decide +kernel
theorem d25_39 : decode jdk_42_method_149_code 39 = .ok (.astore 5, 2) := by decide +kernel
theorem d25_41 : decode jdk_42_method_149_code 41 = .ok (.aload_n 0, 1) := by decide +kernel
theorem d25_42 : decode jdk_42_method_149_code 42 = .ok (.aload 5, 2) := by decide +kernel
theorem d25_44 : decode jdk_42_method_149_code 44 = .ok (.iload_n 3, 1) := by decide +kernel
theorem d25_45 : decode jdk_42_method_149_code 45 = .ok (.invokestatic 47, 3) := by decide +kernel
theorem pd29 : parseMethodDescriptor "([BI)B" = some ⟨[(.array .byte), .int], some .byte⟩ := by decide +kernel
theorem d25_48 : decode jdk_42_method_149_code 48 = .ok (.putfield 15, 3) := by decide +kernel
theorem d25_51 : decode jdk_42_method_149_code 51 = .ok (.aload_n 0, 1) := by decide +kernel
theorem d25_52 : decode jdk_42_method_149_code 52 = .ok (.aload 5, 2) := by decide +kernel
theorem d25_54 : decode jdk_42_method_149_code 54 = .ok (.putfield 9, 3) := by decide +kernel
theorem d25_57 : decode jdk_42_method_149_code 57 = .ok (.return_, 1) := by decide +kernel
theorem ef25n2 (m : MethodId) (sa : Addr) (ca : Addr) : entryFrame m #[(.ref sa), (.ref ca), (.int 0), (.int 2), .null] 6 = mkF m 0 #[.val (.ref sa), .val (.ref ca), .val (.int 0), .val (.int 2), .val .null, .unset] [] := by first | (simp [entryFrame, mkF, argsToLocals, Value.category]; done) | rfl
def Q25n2 (Z : State) (sa : Addr) (ca : Addr) (u1 : Value) (u2 : Value) (kc : ClassId) (y0 : Int32) (y1 : Int32) (cs : Int32) (h0 : Heap) (n0 : Nat) (v : Option Value) (h : Heap) (L : List Loc) : Prop := ∃ (vb : Addr) (kb : ClassId), v = none ∧ Fr n0 L ∧ Keep h0 h [sa] ∧ n0 ≤ vb ∧ h0.size ≤ vb ∧ Exa Z h sa oS ∧ Fld Z h sa oS "coder" "B" (.int 0) ∧ Fld Z h sa oS "value" "[B" (.ref vb) ∧ Arv Z h vb kb .byte (2 : Int32) [(.int y0), (.int y1)] (.int 0)
theorem rm25n2 (l : Launch) (Z : State) (a0 : Array Value) (hw : ∀ d ∈ tables_1, d.before a0 Z = true) (ws : List Jvm.Cond) (sa : Addr) (ca : Addr) (u1 : Value) (u2 : Value) (kc : ClassId) (y0 : Int32) (y1 : Int32) (cs : Int32) (h0 : Heap) (n0 : Nat) (Z0 : n0 ≤ h0.size) (Ex0 : Exa Z h0 sa oS) (S1 : Fld Z h0 sa oS "coder" "B" u1) (S2 : Fld Z h0 sa oS "value" "[B" u2) (gx0 : n0 ≤ sa) (Vx1 : Arv Z h0 ca kc .char (2 : Int32) [(.int y0), (.int y1)] (.int 0)) (nx1_ : sa ≠ ca) (l0 : ¬ ((255 : Int32) < y0)) (l1 : ¬ ((255 : Int32) < y1)) (m0 : (y0.toInt8.toInt32) = y0) (m1 : (y1.toInt8.toInt32) = y1) (Cs : Sta Z Z.heap oS "COMPACT_STRINGS" "Z" (.int cs)) (hcs : ¬ (cs = (0 : Int32))) (Ox : Old Z n0 h0) :
    MetFree l oM34 (head1 (Jvm.Cond.code oM34 jdk_42_method_149_code 6 none :: ws) oR29) (fun a U => a = #[(.ref sa), (.ref ca), (.int 0), (.int 2), .null] ∧ Z.Warmed39 U.vm ∧ U.heap = h0) (fun _ _ _ _ _ => True) (fun _ U o U' => ∃ v L, o = .returned v ∧ Q25n2 Z sa ca u1 u2 kc y0 y1 cs h0 n0 v U'.heap L ∧ FrameEnd U o U' L oR29.cells oR29.slots) := by
  refine MetFree.of_bodySF (plainFor_of_name pn17) hisR ?_
  intro p e s m args below meth c s₁ Bd hml0 hP hK
  obtain ⟨rfl, hZ, hh⟩ := hP
  have hx := Bd.exec
  have hby := Bd.bytes
  have hml : c.maxLocals = 6 := hml0
  have hown : s.vm.findClass oS = some m.cls := findClass_of_methodNamed Bd.named
  have hnm := (name_of_methodNamed Bd.named Bd.method).1
  have X0 : Stand p l e oR29 s m #[(.ref sa), (.ref ca), (.int 0), (.int 2), .null] below meth c s₁ [] 0 0 := Stand.of_body Bd
  have e0 : s₁.heap = h0 := by rw [← hh, Bd.state]; rfl
  have N0 := Fr.nil n0
  have pre0 : ∀ tZ, Steps p.tables e below (s₁.setTop (mkF m 0 #[.val (.ref sa), .val (.ref ca), .val (.int 0), .val (.int 2), .val .null, .unset] [])) tZ → Steps p.tables e below (s₁.setTop (entryFrame m #[(.ref sa), (.ref ca), (.int 0), (.int 2), .null] 6)) tZ := fun tZ kZ => castTop (ef25n2 m sa ca) kZ
  obtain ⟨T1, X1, e1, st1⟩ := initO X0 hx hZ hown (ow hw 72 rfl) (ow hw 16 rfl) (ow hw 17 rfl) e0 (g := (mkF m 1 #[.val (.ref sa), .val (.ref ca), .val (.int 0), .val (.int 2), .val .null, .unset] [(.ref sa)])) rfl (by rw [hml]; rfl) rfl (hb hby d25_1) (by decide) (W := 0) (Nat.le_of_eq rfl) (by decide)
  obtain ⟨T2, X2, e2, st2⟩ := getS2 X1 hx hZ hown (host := "") (Or.inl (ow hw 120 rfl)) Via.refl e1 (Cs.ext Ox.2) (g := (mkF m 27 #[.val (.ref sa), .val (.ref ca), .val (.int 0), .val (.int 2), .val .null, .unset] [])) rfl (hb hby d25_27)
  obtain ⟨_, _, ⟨T3, L3, k3, n3⟩, -, X3, ⟨Lc3, hQ3, l3, y3, z3⟩, st3⟩ := Jvm.LawKit.callS X2 hx (y := oM32) hown (mvT hZ (ow hw 148 rfl)) (mvT hZ (ow hw 149 rfl)) (mvT hZ (ow hw 150 rfl)) (mvT hZ (ow hw 151 rfl)) (by decide) (backOf (W := 0) (rm26n2 l Z a0 hw [] ca kc y0 y1 h0 n0 Z0 Vx1 (by first | assumption | decide | omega) (by first | assumption | decide | omega) (by first | assumption | decide | omega) (by first | assumption | decide | omega)) hZ (ow hw 151 rfl) (ow hw 150 rfl) (by decide) (by decide)) (g := (mkF m 36 #[.val (.ref sa), .val (.ref ca), .val (.int 0), .val (.int 2), .val .null, .unset] [(.int 2), (.int 0), (.ref ca)])) rfl (by rw [hml]; rfl) (argsL := [(.ref ca), (.int 0), (.int 2)]) (rest := []) (lenOf pd28 rfl) rfl (Nat.le_of_eq rfl) (hb hby d25_36) (fun _ _ => ⟨rfl, e2, (by decide : 0 + 1 ≤ _), (by decide : 0 + 2 ≤ _)⟩)
  dsimp only [Pt.U, Pt.locs, Pt.cells, Pt.slots] at X3 l3 y3 z3 st3 hQ3
  subst l3 y3 z3
  obtain ⟨va_4, kv_5, rfl, N3q, K3, u3_0, u3_1, f3_0⟩ := hQ3
  have N3 := Fr.app N0 N3q
  have Z6 : n0 ≤ T3.heap.size := Nat.le_trans Z0 K3.1
  have K7 : Keep h0 T3.heap [sa] := (Keep.refl h0 [sa]).trans K3 all0
  have ne8 : sa ≠ va_4 := Nat.ne_of_lt (Nat.lt_of_lt_of_le Ex0.lt u3_1)
  have ne9 : ca ≠ va_4 := Nat.ne_of_lt (Nat.lt_of_lt_of_le Vx1.lt u3_1)
  have sz_va_4 : h0.size ≤ va_4 := Nat.le_trans (Keep.refl h0 [sa]).1 u3_1
  obtain ⟨_, _, ⟨T10, L10, k10, n10⟩, -, X10, ⟨Lc10, hQ10, l10, y10, z10⟩, st10⟩ := Jvm.LawKit.callS X3 hx (y := oM33) hown (mvT hZ (ow hw 155 rfl)) (mvT hZ (ow hw 156 rfl)) (mvT hZ (ow hw 150 rfl)) (mvT hZ (ow hw 157 rfl)) (by decide) (backOf (W := 1) (rm28n2 l Z a0 hw [] va_4 kv_5 y0 y1 T3.heap n0 Z6 f3_0) hZ (ow hw 157 rfl) (ow hw 150 rfl) (by decide) (by decide)) (g := (mkF m 45 #[.val (.ref sa), .val (.ref ca), .val (.int 0), .val (.int 2), .val .null, .val (.ref va_4)] [(.int 2), (.ref va_4), (.ref sa)])) rfl (by rw [hml]; rfl) (argsL := [(.ref va_4), (.int 2)]) (rest := [(.ref sa)]) (lenOf pd29 rfl) rfl (Nat.le_of_eq rfl) (hb hby d25_45) (fun _ _ => ⟨rfl, rfl, (by decide : 1 + 0 ≤ _), (by decide : 2 + 0 ≤ _)⟩)
  dsimp only [Pt.U, Pt.locs, Pt.cells, Pt.slots] at X10 l10 y10 z10 st10 hQ10
  subst l10 y10 z10
  obtain ⟨rfl, N10q, e10⟩ := hQ10
  have N10 := Fr.app N3 N10q
  have fa11 := (S1.keep K3 nin0)
  have fa12 := (Ex0.keep K3)
  obtain ⟨T13, h13, X13, e13, W13, st13⟩ := putFN X10 hx hZ hown (ow hw 94 rfl) Via.refl e10 fa11 fa12 (Or.inr ⟨(ow hw 6 rfl), rfl, hnm⟩) (ow hw 3 rfl) (ty := .byte) (v' := (.int 0)) (by decide) rfl (by decide) (g := (mkF m 48 #[.val (.ref sa), .val (.ref ca), .val (.int 0), .val (.int 2), .val .null, .val (.ref va_4)] [(.int 0), (.ref sa)])) rfl rfl (hb hby d25_48)
  have fw13 : Fld Z h13 sa oS "coder" "B" (.int 0) := fa11.same W13
  have Z14 : n0 ≤ h13.size := Nat.le_trans Z6 (Nat.le_of_eq W13.size.symm)
  have K15 : Keep h0 h13 [sa] := K7.wr W13 (Or.inl (List.mem_of_getElem? (i := 0) rfl))
  have N13 := Fr.snoc X13 N10 gx0
  have fa16 := ((S2.keep K3 nin0).other W13 (Or.inr (slot_ne (Or.inr (ow hw 5 rfl)) (Or.inr (ow hw 6 rfl)) (by decide) (t := (.array .byte)) (t' := .byte) (by decide) (by decide))))
  have fa17 := (fa12.wr W13)
  obtain ⟨T18, h18, X18, e18, W18, st18⟩ := putF X13 hx hZ hown (host := "") (Or.inl (ow hw 113 rfl)) Via.refl e13 fa16 fa17 (Or.inr ⟨(ow hw 5 rfl), rfl, hnm⟩) (ow hw 3 rfl) (ty := (.array .byte)) (by decide) rfl rfl (g := (mkF m 54 #[.val (.ref sa), .val (.ref ca), .val (.int 0), .val (.int 2), .val .null, .val (.ref va_4)] [(.ref va_4), (.ref sa)])) rfl rfl (hb hby d25_54)
  have fw18 : Fld Z h18 sa oS "value" "[B" (.ref va_4) := fa16.same W18
  have Z19 : n0 ≤ h18.size := Nat.le_trans Z14 (Nat.le_of_eq W18.size.symm)
  have K20 : Keep h0 h18 [sa] := K15.wr W18 (Or.inl (List.mem_of_getElem? (i := 0) rfl))
  have N18 := Fr.snoc X18 N13 gx0
  obtain ⟨fsZ, hrZ, hrun, hended, hW, hsame⟩ := X18.leave (v := none) (fun _ => rfl)
  have fa21 := (fa17.wr W18)
  have fa22 := (fw13.other W18 (Or.inr (slot_ne (Or.inr (ow hw 6 rfl)) (Or.inr (ow hw 5 rfl)) (by decide) (t := .byte) (t' := (.array .byte)) (by decide) (by decide))))
  have fa23 := ((f3_0.other W13 (Ne.symm ne8)).other W18 (Ne.symm ne8))
  refine ⟨_, _, pre0 _ ?_, hrun, hended, _, _, rfl, ?_, ⟨_, rfl⟩, hW, hsame.mono (by decide) (by decide)⟩
  · show Steps _ _ _ (s₁.setTop (mkF m 0 #[.val (.ref sa), .val (.ref ca), .val (.int 0), .val (.int 2), .val .null, .unset] [])) _
    refine XS.aloadN X0.here hx rfl (hb hby d25_0) rfl rfl ?_
    show Steps _ _ _ (s₁.setTop (mkF m 1 #[.val (.ref sa), .val (.ref ca), .val (.int 0), .val (.int 2), .val .null, .unset] [(.ref sa)])) _
    refine st1 _ ?_
    refine XS.iloadN X1.here hx rfl (hb hby d25_4) rfl  ?_
    refine XS.ifYes X1.here hx rfl (pc0 := 5) (pc' := 27) rfl (hb hby d25_5) rfl ((if0 _ _).trans (feq (by decide)).2) (by decide) (by decide) ?_
    show Steps _ _ _ (T1.setTop (mkF m 27 #[.val (.ref sa), .val (.ref ca), .val (.int 0), .val (.int 2), .val .null, .unset] [])) _
    refine st2 _ ?_
    refine XS.ifNo X2.here hx rfl (hb hby d25_30) rfl ((if0 _ _).trans (feq hcs).1) ?_
    refine XS.aloadN X2.here hx rfl (hb hby d25_33) rfl rfl ?_
    refine XS.iloadN X2.here hx rfl (hb hby d25_34) rfl  ?_
    refine XS.iloadN X2.here hx rfl (hb hby d25_35) rfl  ?_
    show Steps _ _ _ (T2.setTop (mkF m 36 #[.val (.ref sa), .val (.ref ca), .val (.int 0), .val (.int 2), .val .null, .unset] [(.int 2), (.int 0), (.ref ca)])) _
    refine st3 _ ?_
    refine XS.astore X3.here hx rfl (hb hby d25_39) rfl rfl (l' := #[.val (.ref sa), .val (.ref ca), .val (.int 0), .val (.int 2), .val .null, .val (.ref va_4)]) rfl ?_
    refine XS.aloadN X3.here hx rfl (hb hby d25_41) rfl rfl ?_
    refine XS.aload X3.here hx rfl (hb hby d25_42) rfl rfl ?_
    refine XS.iloadN X3.here hx rfl (hb hby d25_44) rfl  ?_
    show Steps _ _ _ (T3.setTop (mkF m 45 #[.val (.ref sa), .val (.ref ca), .val (.int 0), .val (.int 2), .val .null, .val (.ref va_4)] [(.int 2), (.ref va_4), (.ref sa)])) _
    refine st10 _ ?_
    show Steps _ _ _ (T10.setTop (mkF m 48 #[.val (.ref sa), .val (.ref ca), .val (.int 0), .val (.int 2), .val .null, .val (.ref va_4)] [(.int 0), (.ref sa)])) _
    refine st13 _ ?_
    refine XS.aloadN X13.here hx rfl (hb hby d25_51) rfl rfl ?_
    refine XS.aload X13.here hx rfl (hb hby d25_52) rfl rfl ?_
    show Steps _ _ _ (T13.setTop (mkF m 54 #[.val (.ref sa), .val (.ref ca), .val (.int 0), .val (.int 2), .val .null, .val (.ref va_4)] [(.ref va_4), (.ref sa)])) _
    refine st18 _ ?_
    show Steps _ _ _ (T18.setTop (mkF m 57 #[.val (.ref sa), .val (.ref ca), .val (.int 0), .val (.int 2), .val .null, .val (.ref va_4)] [])) _
    exact X18.returnOut hx Bd.returns (hb hby d25_57) hrZ
  · show Q25n2 Z sa ca u1 u2 kc y0 y1 cs h0 n0 _ T18.heap _
    rw [e18]
    exact ⟨va_4, kv_5, rfl, N18, K20, u3_0, sz_va_4, fa21, fa22, fw18, fa23⟩
theorem d24_0 : decode jdk_42_method_3_code 0 = .ok (.aload_n 0, 1) := by decide +kernel
theorem d24_1 : decode jdk_42_method_3_code 1 = .ok (.aload_n 1, 1) := by decide +kernel
theorem d24_2 : decode jdk_42_method_3_code 2 = .ok (.iconst 0, 1) := by decide +kernel
theorem d24_3 : decode jdk_42_method_3_code 3 = .ok (.aload_n 1, 1) := by decide +kernel
theorem d24_4 : decode jdk_42_method_3_code 4 = .ok (.arraylength, 1) := by decide +kernel
theorem d24_5 : decode jdk_42_method_3_code 5 = .ok (.aconst_null, 1) := by decide +kernel
theorem d24_6 : decode jdk_42_method_3_code 6 = .ok (.invokespecial 27, 3) := by decide +kernel
theorem pd30 : parseMethodDescriptor "([CIILjava/lang/Void;)V" = some ⟨[(.array .char), .int, .int, (.object "java/lang/Void")], none⟩ := by decide +kernel
theorem d24_9 : decode jdk_42_method_3_code 9 = .ok (.return_, 1) := by decide +kernel
theorem ef24n2 (m : MethodId) (sa : Addr) (ca : Addr) : entryFrame m #[(.ref sa), (.ref ca)] 2 = mkF m 0 #[.val (.ref sa), .val (.ref ca)] [] := by first | (simp [entryFrame, mkF, argsToLocals, Value.category]; done) | rfl
def Q24n2 (Z : State) (sa : Addr) (ca : Addr) (u1 : Value) (u2 : Value) (kc : ClassId) (y0 : Int32) (y1 : Int32) (cs : Int32) (h0 : Heap) (n0 : Nat) (v : Option Value) (h : Heap) (L : List Loc) : Prop := ∃ (vb : Addr) (kb : ClassId), v = none ∧ Fr n0 L ∧ Keep h0 h [sa] ∧ n0 ≤ vb ∧ h0.size ≤ vb ∧ Exa Z h sa oS ∧ Fld Z h sa oS "coder" "B" (.int 0) ∧ Fld Z h sa oS "value" "[B" (.ref vb) ∧ Arv Z h vb kb .byte (2 : Int32) [(.int y0), (.int y1)] (.int 0)
theorem rm24n2 (l : Launch) (Z : State) (a0 : Array Value) (hw : ∀ d ∈ tables_1, d.before a0 Z = true) (ws : List Jvm.Cond) (sa : Addr) (ca : Addr) (u1 : Value) (u2 : Value) (kc : ClassId) (y0 : Int32) (y1 : Int32) (cs : Int32) (h0 : Heap) (n0 : Nat) (Z0 : n0 ≤ h0.size) (Ex0 : Exa Z h0 sa oS) (S1 : Fld Z h0 sa oS "coder" "B" u1) (S2 : Fld Z h0 sa oS "value" "[B" u2) (gx0 : n0 ≤ sa) (Vx1 : Arv Z h0 ca kc .char (2 : Int32) [(.int y0), (.int y1)] (.int 0)) (nx1_ : sa ≠ ca) (l0 : ¬ ((255 : Int32) < y0)) (l1 : ¬ ((255 : Int32) < y1)) (m0 : (y0.toInt8.toInt32) = y0) (m1 : (y1.toInt8.toInt32) = y1) (Cs : Sta Z Z.heap oS "COMPACT_STRINGS" "Z" (.int cs)) (hcs : ¬ (cs = (0 : Int32))) (Ox : Old Z n0 h0) :
    MetFree l oM35 (head1 (Jvm.Cond.code oM35 jdk_42_method_3_code 2 none :: ws) oR30) (fun a U => a = #[(.ref sa), (.ref ca)] ∧ Z.Warmed39 U.vm ∧ U.heap = h0) (fun _ _ _ _ _ => True) (fun _ U o U' => ∃ v L, o = .returned v ∧ Q24n2 Z sa ca u1 u2 kc y0 y1 cs h0 n0 v U'.heap L ∧ FrameEnd U o U' L oR30.cells oR30.slots) := by
  refine MetFree.of_bodySF (plainFor_of_name pn17) hisR ?_
  intro p e s m args below meth c s₁ Bd hml0 hP hK
  obtain ⟨rfl, hZ, hh⟩ := hP
  have hx := Bd.exec
  have hby := Bd.bytes
  have hml : c.maxLocals = 2 := hml0
  have hown : s.vm.findClass oS = some m.cls := findClass_of_methodNamed Bd.named
  have hnm := (name_of_methodNamed Bd.named Bd.method).1
  have X0 : Stand p l e oR30 s m #[(.ref sa), (.ref ca)] below meth c s₁ [] 0 0 := Stand.of_body Bd
  have e0 : s₁.heap = h0 := by rw [← hh, Bd.state]; rfl
  have N0 := Fr.nil n0
  have pre0 : ∀ tZ, Steps p.tables e below (s₁.setTop (mkF m 0 #[.val (.ref sa), .val (.ref ca)] [])) tZ → Steps p.tables e below (s₁.setTop (entryFrame m #[(.ref sa), (.ref ca)] 2)) tZ := fun tZ kZ => castTop (ef24n2 m sa ca) kZ
  obtain ⟨c1, Arc1, -, Sc1, Mc1, -, -⟩ := id Vx1
  obtain ⟨_, _, ⟨T2, L2, k2, n2⟩, -, X2, ⟨Lc2, hQ2, l2, y2, z2⟩, st2⟩ := X0.specialBack hx (y := oM34) rfl hown (mvT hZ (ow hw 145 rfl)) (mvT hZ (ow hw 146 rfl)) (mvT hZ (ow hw 147 rfl)) (by decide) (backOf (W := 0) (rm25n2 l Z a0 hw [] sa ca u1 u2 kc y0 y1 cs h0 n0 Z0 Ex0 S1 S2 gx0 Vx1 nx1_ (by first | assumption | decide | omega) (by first | assumption | decide | omega) (by first | assumption | decide | omega) (by first | assumption | decide | omega) Cs (by first | assumption | decide | omega) Ox) hZ (ow hw 147 rfl) (ow hw 2 rfl) (by decide) (by decide)) (g := (mkF m 6 #[.val (.ref sa), .val (.ref ca)] [.null, (.int 2), (.int 0), (.ref ca), (.ref sa)])) rfl (by rw [hml]; rfl) (Steps.refl _) (a := sa) (argsL := [(.ref ca), (.int 0), (.int 2), .null]) (rest := []) (lenOf pd30 rfl) rfl (Nat.le_of_eq rfl) (hb hby d24_6) (fun _ _ => ⟨rfl, e0, (by decide : 0 + 1 ≤ _), (by decide : 0 + 2 ≤ _)⟩)
  dsimp only [Pt.U, Pt.locs, Pt.cells, Pt.slots] at X2 l2 y2 z2 st2 hQ2
  subst l2 y2 z2
  obtain ⟨vb_3, kb_4, rfl, N2q, K2, u2_0, u2_1, f2_0, f2_1, f2_2, f2_3⟩ := hQ2
  have N2 := Fr.app N0 N2q
  have Z5 : n0 ≤ T2.heap.size := Nat.le_trans Z0 K2.1
  have K6 : Keep h0 T2.heap [sa] := (Keep.refl h0 [sa]).trans K2 (allS (P := fun x => x ∈ _ ∨ _) (Or.inl (List.mem_of_getElem? (i := 0) rfl)) all0)
  have ne7 : sa ≠ vb_3 := Nat.ne_of_lt (Nat.lt_of_lt_of_le Ex0.lt u2_1)
  have ne8 : ca ≠ vb_3 := Nat.ne_of_lt (Nat.lt_of_lt_of_le Vx1.lt u2_1)
  have sz_vb_3 : h0.size ≤ vb_3 := Nat.le_trans (Keep.refl h0 [sa]).1 u2_1
  obtain ⟨fsZ, hrZ, hrun, hended, hW, hsame⟩ := X2.leave (v := none) (fun _ => rfl)
  refine ⟨_, _, pre0 _ ?_, hrun, hended, _, _, rfl, ?_, ⟨_, rfl⟩, hW, hsame.mono (by decide) (by decide)⟩
  · show Steps _ _ _ (s₁.setTop (mkF m 0 #[.val (.ref sa), .val (.ref ca)] [])) _
    refine XS.aloadN X0.here hx rfl (hb hby d24_0) rfl rfl ?_
    refine XS.aloadN X0.here hx rfl (hb hby d24_1) rfl rfl ?_
    refine XS.iconst X0.here hx rfl (hb hby d24_2) ?_
    refine XS.aloadN X0.here hx rfl (hb hby d24_3) rfl rfl ?_
    show Steps _ _ _ (s₁.setTop (mkF m 4 #[.val (.ref sa), .val (.ref ca)] [(.ref ca), (.int 0), (.ref ca), (.ref sa)])) _
    refine X0.arraylength hx (by rw [e0]; exact Arc1.1) (State.isArrayOf_alike hZ.alike Arc1.2.1) (g := (mkF m 4 #[.val (.ref sa), .val (.ref ca)] [(.ref ca), (.int 0), (.ref ca), (.ref sa)])) rfl rfl (hb hby d24_4) _ ?_
    rw [len_of Sc1 Mc1]
    show Steps _ _ _ (s₁.setTop (mkF m 5 #[.val (.ref sa), .val (.ref ca)] [(.int 2), (.int 0), (.ref ca), (.ref sa)])) _
    refine XS.aconstNull X0.here hx rfl (hb hby d24_5) ?_
    show Steps _ _ _ (s₁.setTop (mkF m 6 #[.val (.ref sa), .val (.ref ca)] [.null, (.int 2), (.int 0), (.ref ca), (.ref sa)])) _
    refine st2.trans ?_
    show Steps _ _ _ (T2.setTop (mkF m 9 #[.val (.ref sa), .val (.ref ca)] [])) _
    exact X2.returnOut hx Bd.returns (hb hby d24_9) hrZ
  · show Q24n2 Z sa ca u1 u2 kc y0 y1 cs h0 n0 _ T2.heap _
    exact ⟨vb_3, kb_4, rfl, N2, K6, u2_0, sz_vb_3, f2_0, f2_1, f2_2, f2_3⟩
theorem ef27n4 (m : MethodId) (ca : Addr) (va : Addr) : entryFrame m #[(.ref ca), (.int 0), (.ref va), (.int 0), (.int 4)] 7 = mkF m 0 #[.val (.ref ca), .val (.int 0), .val (.ref va), .val (.int 0), .val (.int 4), .unset, .unset] [] := by first | (simp [entryFrame, mkF, argsToLocals, Value.category]; done) | rfl
def Q27n4 (Z : State) (ca : Addr) (va : Addr) (kc : ClassId) (kv : ClassId) (y0 : Int32) (y1 : Int32) (y2 : Int32) (y3 : Int32) (z0 : Int32) (z1 : Int32) (z2 : Int32) (z3 : Int32) (h0 : Heap) (n0 : Nat) (v : Option Value) (h : Heap) (L : List Loc) : Prop := v = some (.int 4) ∧ Fr n0 L ∧ Keep h0 h [va] ∧ Arv Z h va kv .byte (4 : Int32) [(.int y0), (.int y1), (.int y2), (.int y3)] (.int 0)
theorem rm27n4 (l : Launch) (Z : State) (a0 : Array Value) (hw : ∀ d ∈ tables_1, d.before a0 Z = true) (ws : List Jvm.Cond) (ca : Addr) (va : Addr) (kc : ClassId) (kv : ClassId) (y0 : Int32) (y1 : Int32) (y2 : Int32) (y3 : Int32) (z0 : Int32) (z1 : Int32) (z2 : Int32) (z3 : Int32) (h0 : Heap) (n0 : Nat) (Z0 : n0 ≤ h0.size) (Vx1 : Arv Z h0 ca kc .char (4 : Int32) [(.int y0), (.int y1), (.int y2), (.int y3)] (.int 0)) (Vx2 : Arv Z h0 va kv .byte (4 : Int32) [(.int z0), (.int z1), (.int z2), (.int z3)] (.int 0)) (nx1 : ca ≠ va) (gx1 : n0 ≤ va) (l0 : ¬ ((255 : Int32) < y0)) (l1 : ¬ ((255 : Int32) < y1)) (l2 : ¬ ((255 : Int32) < y2)) (l3 : ¬ ((255 : Int32) < y3)) (m0 : (y0.toInt8.toInt32) = y0) (m1 : (y1.toInt8.toInt32) = y1) (m2 : (y2.toInt8.toInt32) = y2) (m3 : (y3.toInt8.toInt32) = y3) :
    MetFree l oM31 (head1 (Jvm.Cond.code oM31 jdk_52_method_21_code 7 (some .int) :: ws) oR1) (fun a U => a = #[(.ref ca), (.int 0), (.ref va), (.int 0), (.int 4)] ∧ Z.Warmed39 U.vm ∧ U.heap = h0) (fun _ _ _ _ _ => True) (fun _ U o U' => ∃ v L, o = .returned v ∧ Q27n4 Z ca va kc kv y0 y1 y2 y3 z0 z1 z2 z3 h0 n0 v U'.heap L ∧ FrameEnd U o U' L oR1.cells oR1.slots) := by
  refine MetFree.of_bodySF (plainFor_of_name pn26) hisR ?_
  intro p e s m args below meth c s₁ Bd hml0 hP hK
  obtain ⟨rfl, hZ, hh⟩ := hP
  have hx := Bd.exec
  have hby := Bd.bytes
  have hml : c.maxLocals = 7 := hml0
  have hown : s.vm.findClass "java/lang/StringUTF16" = some m.cls := findClass_of_methodNamed Bd.named
  have hnm := (name_of_methodNamed Bd.named Bd.method).1
  have X0 : Stand p l e oR1 s m #[(.ref ca), (.int 0), (.ref va), (.int 0), (.int 4)] below meth c s₁ [] 0 0 := Stand.of_body Bd
  have e0 : s₁.heap = h0 := by rw [← hh, Bd.state]; rfl
  have N0 := Fr.nil n0
  have pre0 : ∀ tZ, Steps p.tables e below (s₁.setTop (mkF m 0 #[.val (.ref ca), .val (.int 0), .val (.ref va), .val (.int 0), .val (.int 4), .unset, .unset] [])) tZ → Steps p.tables e below (s₁.setTop (entryFrame m #[(.ref ca), (.int 0), (.ref va), (.int 0), (.int 4)] 7)) tZ := fun tZ kZ => castTop (ef27n4 m ca va) kZ
  obtain ⟨c1, Arc1, qc1, Sc1, Mc1, Hc1, Gc1⟩ := id Vx1
  have hinc1 : ¬ ((0 : Int32) < 0 ∨ c1.slots.size ≤ ((0 : Int32)).toNatClampNeg) := inb_of Sc1 ⟨by decide, by decide⟩
  have hatc1 : c1.slots[((0 : Int32)).toNatClampNeg]? = some (.int y0) := Hc1.at hinc1 rfl
  obtain ⟨c2, Arc2, qc2, Sc2, Mc2, Hc2, Gc2⟩ := id Vx2
  have hinc2 : ¬ ((0 : Int32) < 0 ∨ c2.slots.size ≤ ((0 : Int32)).toNatClampNeg) := inb_of Sc2 ⟨by decide, by decide⟩
  obtain ⟨T3, h3, X3, e3, W3, st3⟩ := stB X0 hx hZ e0 Arc2 (j := (0 : Int32)) hinc2  (g := (mkF m 31 #[.val (.ref ca), .val (.int 0), .val (.ref va), .val (.int 0), .val (.int 4), .val (.int 0), .val (.int y0)] [(.int (y0.toInt8.toInt32)), (.int 0), (.ref va)])) rfl rfl (hb hby d27_31)
  have V3 : Arv Z h3 va kv .byte (4 : Int32) [(.int ((y0.toInt8.toInt32).toInt8.toInt32)), (.int z1), (.int z2), (.int z3)] (.int 0) := Arv.set Arc2 qc2 Sc2 Mc2 Hc2 Gc2 (fits_nar_byte _) W3 0 rfl (Nat.le_of_ble_eq_true rfl)
  have Z4 : n0 ≤ h3.size := Nat.le_trans Z0 (Nat.le_of_eq W3.size.symm)
  have K5 : Keep h0 h3 [va] := (Keep.refl h0 [va]).wr W3 (Or.inl (List.mem_of_getElem? (i := 0) rfl))
  have N3 := Fr.snoc X3 N0 gx1
  have fa6 := (Vx1.other W3 nx1)
  obtain ⟨c7, Arc7, qc7, Sc7, Mc7, Hc7, Gc7⟩ := id fa6
  have hinc7 : ¬ ((1 : Int32) < 0 ∨ c7.slots.size ≤ ((1 : Int32)).toNatClampNeg) := inb_of Sc7 ⟨by decide, by decide⟩
  have hatc7 : c7.slots[((1 : Int32)).toNatClampNeg]? = some (.int y1) := Hc7.at hinc7 rfl
  obtain ⟨c8, Arc8, qc8, Sc8, Mc8, Hc8, Gc8⟩ := id V3
  have hinc8 : ¬ ((1 : Int32) < 0 ∨ c8.slots.size ≤ ((1 : Int32)).toNatClampNeg) := inb_of Sc8 ⟨by decide, by decide⟩
  obtain ⟨T9, h9, X9, e9, W9, st9⟩ := stB X3 hx hZ e3 Arc8 (j := (1 : Int32)) hinc8  (g := (mkF m 31 #[.val (.ref ca), .val (.int 1), .val (.ref va), .val (.int 1), .val (.int 4), .val (.int 1), .val (.int y1)] [(.int (y1.toInt8.toInt32)), (.int 1), (.ref va)])) rfl rfl (hb hby d27_31)
  have V9 : Arv Z h9 va kv .byte (4 : Int32) [(.int ((y0.toInt8.toInt32).toInt8.toInt32)), (.int ((y1.toInt8.toInt32).toInt8.toInt32)), (.int z2), (.int z3)] (.int 0) := Arv.set Arc8 qc8 Sc8 Mc8 Hc8 Gc8 (fits_nar_byte _) W9 1 rfl (Nat.le_of_ble_eq_true rfl)
  have Z10 : n0 ≤ h9.size := Nat.le_trans Z4 (Nat.le_of_eq W9.size.symm)
  have K11 : Keep h0 h9 [va] := K5.wr W9 (Or.inl (List.mem_of_getElem? (i := 0) rfl))
  have N9 := Fr.snoc X9 N3 gx1
  have fa12 := (fa6.other W9 nx1)
  obtain ⟨c13, Arc13, qc13, Sc13, Mc13, Hc13, Gc13⟩ := id fa12
  have hinc13 : ¬ ((2 : Int32) < 0 ∨ c13.slots.size ≤ ((2 : Int32)).toNatClampNeg) := inb_of Sc13 ⟨by decide, by decide⟩
  have hatc13 : c13.slots[((2 : Int32)).toNatClampNeg]? = some (.int y2) := Hc13.at hinc13 rfl
  obtain ⟨c14, Arc14, qc14, Sc14, Mc14, Hc14, Gc14⟩ := id V9
  have hinc14 : ¬ ((2 : Int32) < 0 ∨ c14.slots.size ≤ ((2 : Int32)).toNatClampNeg) := inb_of Sc14 ⟨by decide, by decide⟩
  obtain ⟨T15, h15, X15, e15, W15, st15⟩ := stB X9 hx hZ e9 Arc14 (j := (2 : Int32)) hinc14  (g := (mkF m 31 #[.val (.ref ca), .val (.int 2), .val (.ref va), .val (.int 2), .val (.int 4), .val (.int 2), .val (.int y2)] [(.int (y2.toInt8.toInt32)), (.int 2), (.ref va)])) rfl rfl (hb hby d27_31)
  have V15 : Arv Z h15 va kv .byte (4 : Int32) [(.int ((y0.toInt8.toInt32).toInt8.toInt32)), (.int ((y1.toInt8.toInt32).toInt8.toInt32)), (.int ((y2.toInt8.toInt32).toInt8.toInt32)), (.int z3)] (.int 0) := Arv.set Arc14 qc14 Sc14 Mc14 Hc14 Gc14 (fits_nar_byte _) W15 2 rfl (Nat.le_of_ble_eq_true rfl)
  have Z16 : n0 ≤ h15.size := Nat.le_trans Z10 (Nat.le_of_eq W15.size.symm)
  have K17 : Keep h0 h15 [va] := K11.wr W15 (Or.inl (List.mem_of_getElem? (i := 0) rfl))
  have N15 := Fr.snoc X15 N9 gx1
  have fa18 := (fa12.other W15 nx1)
  obtain ⟨c19, Arc19, qc19, Sc19, Mc19, Hc19, Gc19⟩ := id fa18
  have hinc19 : ¬ ((3 : Int32) < 0 ∨ c19.slots.size ≤ ((3 : Int32)).toNatClampNeg) := inb_of Sc19 ⟨by decide, by decide⟩
  have hatc19 : c19.slots[((3 : Int32)).toNatClampNeg]? = some (.int y3) := Hc19.at hinc19 rfl
  obtain ⟨c20, Arc20, qc20, Sc20, Mc20, Hc20, Gc20⟩ := id V15
  have hinc20 : ¬ ((3 : Int32) < 0 ∨ c20.slots.size ≤ ((3 : Int32)).toNatClampNeg) := inb_of Sc20 ⟨by decide, by decide⟩
  obtain ⟨T21, h21, X21, e21, W21, st21⟩ := stB X15 hx hZ e15 Arc20 (j := (3 : Int32)) hinc20  (g := (mkF m 31 #[.val (.ref ca), .val (.int 3), .val (.ref va), .val (.int 3), .val (.int 4), .val (.int 3), .val (.int y3)] [(.int (y3.toInt8.toInt32)), (.int 3), (.ref va)])) rfl rfl (hb hby d27_31)
  have V21 : Arv Z h21 va kv .byte (4 : Int32) [(.int ((y0.toInt8.toInt32).toInt8.toInt32)), (.int ((y1.toInt8.toInt32).toInt8.toInt32)), (.int ((y2.toInt8.toInt32).toInt8.toInt32)), (.int ((y3.toInt8.toInt32).toInt8.toInt32))] (.int 0) := Arv.set Arc20 qc20 Sc20 Mc20 Hc20 Gc20 (fits_nar_byte _) W21 3 rfl (Nat.le_of_ble_eq_true rfl)
  have Z22 : n0 ≤ h21.size := Nat.le_trans Z16 (Nat.le_of_eq W21.size.symm)
  have K23 : Keep h0 h21 [va] := K17.wr W21 (Or.inl (List.mem_of_getElem? (i := 0) rfl))
  have N21 := Fr.snoc X21 N15 gx1
  obtain ⟨fsZ, hrZ, hrun, hended, hW, hsame⟩ := X21.leave (v := some (.int 4)) (fun h => by rw [Bd.returns] at h; cases h)
  refine ⟨_, _, pre0 _ ?_, hrun, hended, _, _, rfl, ?_, ⟨_, rfl⟩, hW, hsame.mono (by decide) (by decide)⟩
  · show Steps _ _ _ (s₁.setTop (mkF m 0 #[.val (.ref ca), .val (.int 0), .val (.ref va), .val (.int 0), .val (.int 4), .unset, .unset] [])) _
    refine XS.iconst X0.here hx rfl (hb hby d27_0) ?_
    refine XS.istore X0.here hx rfl (hb hby d27_1) rfl (l' := #[.val (.ref ca), .val (.int 0), .val (.ref va), .val (.int 0), .val (.int 4), .val (.int 0), .unset]) rfl ?_
    refine XS.iload X0.here hx rfl (hb hby d27_3) rfl  ?_
    refine XS.iload X0.here hx rfl (hb hby d27_5) rfl  ?_
    refine XS.icmpNo X0.here hx rfl (hb hby d27_7) rfl (tlt (by decide)).2.1 ?_
    refine XS.aloadN X0.here hx rfl (hb hby d27_10) rfl rfl ?_
    refine XS.iloadN X0.here hx rfl (hb hby d27_11) rfl  ?_
    show Steps _ _ _ (s₁.setTop (mkF m 12 #[.val (.ref ca), .val (.int 0), .val (.ref va), .val (.int 0), .val (.int 4), .val (.int 0), .unset] [(.int 0), (.ref ca)])) _
    refine X0.caload hx (j := (0 : Int32)) (v := (.int y0)) (by rw [e0]; exact Arc1.1) (State.isArrayOf_alike hZ.alike Arc1.2.1) Arc1.2.2 hinc1 hatc1 (g := (mkF m 12 #[.val (.ref ca), .val (.int 0), .val (.ref va), .val (.int 0), .val (.int 4), .val (.int 0), .unset] [(.int 0), (.ref ca)])) rfl rfl (hb hby d27_12) _ ?_
    refine XS.istore X0.here hx rfl (hb hby d27_13) rfl (l' := #[.val (.ref ca), .val (.int 0), .val (.ref va), .val (.int 0), .val (.int 4), .val (.int 0), .val (.int y0)]) rfl ?_
    refine XS.iload X0.here hx rfl (hb hby d27_15) rfl  ?_
    refine XS.sipush X0.here hx rfl (hb hby d27_17) ?_
    refine XS.icmpYes X0.here hx rfl (pc0 := 20) (pc' := 26) rfl (hb hby d27_20) rfl (flt l0).2.2.2 (by decide) (by decide) ?_
    refine XS.aloadN X0.here hx rfl (hb hby d27_26) rfl rfl ?_
    refine XS.iloadN X0.here hx rfl (hb hby d27_27) rfl  ?_
    refine XS.iload X0.here hx rfl (hb hby d27_28) rfl  ?_
    show Steps _ _ _ (s₁.setTop (mkF m 30 #[.val (.ref ca), .val (.int 0), .val (.ref va), .val (.int 0), .val (.int 4), .val (.int 0), .val (.int y0)] [(.int y0), (.int 0), (.ref va)])) _
    refine XS.i2b X0.here hx rfl (hb hby d27_30) rfl ?_
    show Steps _ _ _ (s₁.setTop (mkF m 31 #[.val (.ref ca), .val (.int 0), .val (.ref va), .val (.int 0), .val (.int 4), .val (.int 0), .val (.int y0)] [(.int (y0.toInt8.toInt32)), (.int 0), (.ref va)])) _
    refine st3 _ ?_
    refine XS.iinc X3.here hx rfl (hb hby d27_32) rfl (l' := #[.val (.ref ca), .val (.int ((0 : Int32) + (1 : Int32))), .val (.ref va), .val (.int 0), .val (.int 4), .val (.int 0), .val (.int y0)]) rfl ?_
    show Steps _ _ _ (T3.setTop (mkF m 35 #[.val (.ref ca), .val (.int ((0 : Int32) + (1 : Int32))), .val (.ref va), .val (.int 0), .val (.int 4), .val (.int 0), .val (.int y0)] [])) _
    rw [show ((0 : Int32) + (1 : Int32)) = (1 : Int32) from by decide]
    show Steps _ _ _ (T3.setTop (mkF m 35 #[.val (.ref ca), .val (.int 1), .val (.ref va), .val (.int 0), .val (.int 4), .val (.int 0), .val (.int y0)] [])) _
    refine XS.iinc X3.here hx rfl (hb hby d27_35) rfl (l' := #[.val (.ref ca), .val (.int 1), .val (.ref va), .val (.int ((0 : Int32) + (1 : Int32))), .val (.int 4), .val (.int 0), .val (.int y0)]) rfl ?_
    show Steps _ _ _ (T3.setTop (mkF m 38 #[.val (.ref ca), .val (.int 1), .val (.ref va), .val (.int ((0 : Int32) + (1 : Int32))), .val (.int 4), .val (.int 0), .val (.int y0)] [])) _
    rw [show ((0 : Int32) + (1 : Int32)) = (1 : Int32) from by decide]
    show Steps _ _ _ (T3.setTop (mkF m 38 #[.val (.ref ca), .val (.int 1), .val (.ref va), .val (.int 1), .val (.int 4), .val (.int 0), .val (.int y0)] [])) _
    refine XS.iinc X3.here hx rfl (hb hby d27_38) rfl (l' := #[.val (.ref ca), .val (.int 1), .val (.ref va), .val (.int 1), .val (.int 4), .val (.int ((0 : Int32) + (1 : Int32))), .val (.int y0)]) rfl ?_
    show Steps _ _ _ (T3.setTop (mkF m 41 #[.val (.ref ca), .val (.int 1), .val (.ref va), .val (.int 1), .val (.int 4), .val (.int ((0 : Int32) + (1 : Int32))), .val (.int y0)] [])) _
    rw [show ((0 : Int32) + (1 : Int32)) = (1 : Int32) from by decide]
    show Steps _ _ _ (T3.setTop (mkF m 41 #[.val (.ref ca), .val (.int 1), .val (.ref va), .val (.int 1), .val (.int 4), .val (.int 1), .val (.int y0)] [])) _
    refine XS.goto X3.here hx rfl (pc0 := 41) (pc' := 3) rfl (hb hby d27_41) (by decide) (by decide) ?_
    refine XS.iload X3.here hx rfl (hb hby d27_3) rfl  ?_
    refine XS.iload X3.here hx rfl (hb hby d27_5) rfl  ?_
    refine XS.icmpNo X3.here hx rfl (hb hby d27_7) rfl (tlt (by decide)).2.1 ?_
    refine XS.aloadN X3.here hx rfl (hb hby d27_10) rfl rfl ?_
    refine XS.iloadN X3.here hx rfl (hb hby d27_11) rfl  ?_
    show Steps _ _ _ (T3.setTop (mkF m 12 #[.val (.ref ca), .val (.int 1), .val (.ref va), .val (.int 1), .val (.int 4), .val (.int 1), .val (.int y0)] [(.int 1), (.ref ca)])) _
    refine X3.caload hx (j := (1 : Int32)) (v := (.int y1)) (by rw [e3]; exact Arc7.1) (State.isArrayOf_alike hZ.alike Arc7.2.1) Arc7.2.2 hinc7 hatc7 (g := (mkF m 12 #[.val (.ref ca), .val (.int 1), .val (.ref va), .val (.int 1), .val (.int 4), .val (.int 1), .val (.int y0)] [(.int 1), (.ref ca)])) rfl rfl (hb hby d27_12) _ ?_
    refine XS.istore X3.here hx rfl (hb hby d27_13) rfl (l' := #[.val (.ref ca), .val (.int 1), .val (.ref va), .val (.int 1), .val (.int 4), .val (.int 1), .val (.int y1)]) rfl ?_
    refine XS.iload X3.here hx rfl (hb hby d27_15) rfl  ?_
    refine XS.sipush X3.here hx rfl (hb hby d27_17) ?_
    refine XS.icmpYes X3.here hx rfl (pc0 := 20) (pc' := 26) rfl (hb hby d27_20) rfl (flt l1).2.2.2 (by decide) (by decide) ?_
    refine XS.aloadN X3.here hx rfl (hb hby d27_26) rfl rfl ?_
    refine XS.iloadN X3.here hx rfl (hb hby d27_27) rfl  ?_
    refine XS.iload X3.here hx rfl (hb hby d27_28) rfl  ?_
    show Steps _ _ _ (T3.setTop (mkF m 30 #[.val (.ref ca), .val (.int 1), .val (.ref va), .val (.int 1), .val (.int 4), .val (.int 1), .val (.int y1)] [(.int y1), (.int 1), (.ref va)])) _
    refine XS.i2b X3.here hx rfl (hb hby d27_30) rfl ?_
    show Steps _ _ _ (T3.setTop (mkF m 31 #[.val (.ref ca), .val (.int 1), .val (.ref va), .val (.int 1), .val (.int 4), .val (.int 1), .val (.int y1)] [(.int (y1.toInt8.toInt32)), (.int 1), (.ref va)])) _
    refine st9 _ ?_
    refine XS.iinc X9.here hx rfl (hb hby d27_32) rfl (l' := #[.val (.ref ca), .val (.int ((1 : Int32) + (1 : Int32))), .val (.ref va), .val (.int 1), .val (.int 4), .val (.int 1), .val (.int y1)]) rfl ?_
    show Steps _ _ _ (T9.setTop (mkF m 35 #[.val (.ref ca), .val (.int ((1 : Int32) + (1 : Int32))), .val (.ref va), .val (.int 1), .val (.int 4), .val (.int 1), .val (.int y1)] [])) _
    rw [show ((1 : Int32) + (1 : Int32)) = (2 : Int32) from by decide]
    show Steps _ _ _ (T9.setTop (mkF m 35 #[.val (.ref ca), .val (.int 2), .val (.ref va), .val (.int 1), .val (.int 4), .val (.int 1), .val (.int y1)] [])) _
    refine XS.iinc X9.here hx rfl (hb hby d27_35) rfl (l' := #[.val (.ref ca), .val (.int 2), .val (.ref va), .val (.int ((1 : Int32) + (1 : Int32))), .val (.int 4), .val (.int 1), .val (.int y1)]) rfl ?_
    show Steps _ _ _ (T9.setTop (mkF m 38 #[.val (.ref ca), .val (.int 2), .val (.ref va), .val (.int ((1 : Int32) + (1 : Int32))), .val (.int 4), .val (.int 1), .val (.int y1)] [])) _
    rw [show ((1 : Int32) + (1 : Int32)) = (2 : Int32) from by decide]
    show Steps _ _ _ (T9.setTop (mkF m 38 #[.val (.ref ca), .val (.int 2), .val (.ref va), .val (.int 2), .val (.int 4), .val (.int 1), .val (.int y1)] [])) _
    refine XS.iinc X9.here hx rfl (hb hby d27_38) rfl (l' := #[.val (.ref ca), .val (.int 2), .val (.ref va), .val (.int 2), .val (.int 4), .val (.int ((1 : Int32) + (1 : Int32))), .val (.int y1)]) rfl ?_
    show Steps _ _ _ (T9.setTop (mkF m 41 #[.val (.ref ca), .val (.int 2), .val (.ref va), .val (.int 2), .val (.int 4), .val (.int ((1 : Int32) + (1 : Int32))), .val (.int y1)] [])) _
    rw [show ((1 : Int32) + (1 : Int32)) = (2 : Int32) from by decide]
    show Steps _ _ _ (T9.setTop (mkF m 41 #[.val (.ref ca), .val (.int 2), .val (.ref va), .val (.int 2), .val (.int 4), .val (.int 2), .val (.int y1)] [])) _
    refine XS.goto X9.here hx rfl (pc0 := 41) (pc' := 3) rfl (hb hby d27_41) (by decide) (by decide) ?_
    refine XS.iload X9.here hx rfl (hb hby d27_3) rfl  ?_
    refine XS.iload X9.here hx rfl (hb hby d27_5) rfl  ?_
    refine XS.icmpNo X9.here hx rfl (hb hby d27_7) rfl (tlt (by decide)).2.1 ?_
    refine XS.aloadN X9.here hx rfl (hb hby d27_10) rfl rfl ?_
    refine XS.iloadN X9.here hx rfl (hb hby d27_11) rfl  ?_
    show Steps _ _ _ (T9.setTop (mkF m 12 #[.val (.ref ca), .val (.int 2), .val (.ref va), .val (.int 2), .val (.int 4), .val (.int 2), .val (.int y1)] [(.int 2), (.ref ca)])) _
    refine X9.caload hx (j := (2 : Int32)) (v := (.int y2)) (by rw [e9]; exact Arc13.1) (State.isArrayOf_alike hZ.alike Arc13.2.1) Arc13.2.2 hinc13 hatc13 (g := (mkF m 12 #[.val (.ref ca), .val (.int 2), .val (.ref va), .val (.int 2), .val (.int 4), .val (.int 2), .val (.int y1)] [(.int 2), (.ref ca)])) rfl rfl (hb hby d27_12) _ ?_
    refine XS.istore X9.here hx rfl (hb hby d27_13) rfl (l' := #[.val (.ref ca), .val (.int 2), .val (.ref va), .val (.int 2), .val (.int 4), .val (.int 2), .val (.int y2)]) rfl ?_
    refine XS.iload X9.here hx rfl (hb hby d27_15) rfl  ?_
    refine XS.sipush X9.here hx rfl (hb hby d27_17) ?_
    refine XS.icmpYes X9.here hx rfl (pc0 := 20) (pc' := 26) rfl (hb hby d27_20) rfl (flt l2).2.2.2 (by decide) (by decide) ?_
    refine XS.aloadN X9.here hx rfl (hb hby d27_26) rfl rfl ?_
    refine XS.iloadN X9.here hx rfl (hb hby d27_27) rfl  ?_
    refine XS.iload X9.here hx rfl (hb hby d27_28) rfl  ?_
    show Steps _ _ _ (T9.setTop (mkF m 30 #[.val (.ref ca), .val (.int 2), .val (.ref va), .val (.int 2), .val (.int 4), .val (.int 2), .val (.int y2)] [(.int y2), (.int 2), (.ref va)])) _
    refine XS.i2b X9.here hx rfl (hb hby d27_30) rfl ?_
    show Steps _ _ _ (T9.setTop (mkF m 31 #[.val (.ref ca), .val (.int 2), .val (.ref va), .val (.int 2), .val (.int 4), .val (.int 2), .val (.int y2)] [(.int (y2.toInt8.toInt32)), (.int 2), (.ref va)])) _
    refine st15 _ ?_
    refine XS.iinc X15.here hx rfl (hb hby d27_32) rfl (l' := #[.val (.ref ca), .val (.int ((2 : Int32) + (1 : Int32))), .val (.ref va), .val (.int 2), .val (.int 4), .val (.int 2), .val (.int y2)]) rfl ?_
    show Steps _ _ _ (T15.setTop (mkF m 35 #[.val (.ref ca), .val (.int ((2 : Int32) + (1 : Int32))), .val (.ref va), .val (.int 2), .val (.int 4), .val (.int 2), .val (.int y2)] [])) _
    rw [show ((2 : Int32) + (1 : Int32)) = (3 : Int32) from by decide]
    show Steps _ _ _ (T15.setTop (mkF m 35 #[.val (.ref ca), .val (.int 3), .val (.ref va), .val (.int 2), .val (.int 4), .val (.int 2), .val (.int y2)] [])) _
    refine XS.iinc X15.here hx rfl (hb hby d27_35) rfl (l' := #[.val (.ref ca), .val (.int 3), .val (.ref va), .val (.int ((2 : Int32) + (1 : Int32))), .val (.int 4), .val (.int 2), .val (.int y2)]) rfl ?_
    show Steps _ _ _ (T15.setTop (mkF m 38 #[.val (.ref ca), .val (.int 3), .val (.ref va), .val (.int ((2 : Int32) + (1 : Int32))), .val (.int 4), .val (.int 2), .val (.int y2)] [])) _
    rw [show ((2 : Int32) + (1 : Int32)) = (3 : Int32) from by decide]
    show Steps _ _ _ (T15.setTop (mkF m 38 #[.val (.ref ca), .val (.int 3), .val (.ref va), .val (.int 3), .val (.int 4), .val (.int 2), .val (.int y2)] [])) _
    refine XS.iinc X15.here hx rfl (hb hby d27_38) rfl (l' := #[.val (.ref ca), .val (.int 3), .val (.ref va), .val (.int 3), .val (.int 4), .val (.int ((2 : Int32) + (1 : Int32))), .val (.int y2)]) rfl ?_
    show Steps _ _ _ (T15.setTop (mkF m 41 #[.val (.ref ca), .val (.int 3), .val (.ref va), .val (.int 3), .val (.int 4), .val (.int ((2 : Int32) + (1 : Int32))), .val (.int y2)] [])) _
    rw [show ((2 : Int32) + (1 : Int32)) = (3 : Int32) from by decide]
    show Steps _ _ _ (T15.setTop (mkF m 41 #[.val (.ref ca), .val (.int 3), .val (.ref va), .val (.int 3), .val (.int 4), .val (.int 3), .val (.int y2)] [])) _
    refine XS.goto X15.here hx rfl (pc0 := 41) (pc' := 3) rfl (hb hby d27_41) (by decide) (by decide) ?_
    refine XS.iload X15.here hx rfl (hb hby d27_3) rfl  ?_
    refine XS.iload X15.here hx rfl (hb hby d27_5) rfl  ?_
    refine XS.icmpNo X15.here hx rfl (hb hby d27_7) rfl (tlt (by decide)).2.1 ?_
    refine XS.aloadN X15.here hx rfl (hb hby d27_10) rfl rfl ?_
    refine XS.iloadN X15.here hx rfl (hb hby d27_11) rfl  ?_
    show Steps _ _ _ (T15.setTop (mkF m 12 #[.val (.ref ca), .val (.int 3), .val (.ref va), .val (.int 3), .val (.int 4), .val (.int 3), .val (.int y2)] [(.int 3), (.ref ca)])) _
    refine X15.caload hx (j := (3 : Int32)) (v := (.int y3)) (by rw [e15]; exact Arc19.1) (State.isArrayOf_alike hZ.alike Arc19.2.1) Arc19.2.2 hinc19 hatc19 (g := (mkF m 12 #[.val (.ref ca), .val (.int 3), .val (.ref va), .val (.int 3), .val (.int 4), .val (.int 3), .val (.int y2)] [(.int 3), (.ref ca)])) rfl rfl (hb hby d27_12) _ ?_
    refine XS.istore X15.here hx rfl (hb hby d27_13) rfl (l' := #[.val (.ref ca), .val (.int 3), .val (.ref va), .val (.int 3), .val (.int 4), .val (.int 3), .val (.int y3)]) rfl ?_
    refine XS.iload X15.here hx rfl (hb hby d27_15) rfl  ?_
    refine XS.sipush X15.here hx rfl (hb hby d27_17) ?_
    refine XS.icmpYes X15.here hx rfl (pc0 := 20) (pc' := 26) rfl (hb hby d27_20) rfl (flt l3).2.2.2 (by decide) (by decide) ?_
    refine XS.aloadN X15.here hx rfl (hb hby d27_26) rfl rfl ?_
    refine XS.iloadN X15.here hx rfl (hb hby d27_27) rfl  ?_
    refine XS.iload X15.here hx rfl (hb hby d27_28) rfl  ?_
    show Steps _ _ _ (T15.setTop (mkF m 30 #[.val (.ref ca), .val (.int 3), .val (.ref va), .val (.int 3), .val (.int 4), .val (.int 3), .val (.int y3)] [(.int y3), (.int 3), (.ref va)])) _
    refine XS.i2b X15.here hx rfl (hb hby d27_30) rfl ?_
    show Steps _ _ _ (T15.setTop (mkF m 31 #[.val (.ref ca), .val (.int 3), .val (.ref va), .val (.int 3), .val (.int 4), .val (.int 3), .val (.int y3)] [(.int (y3.toInt8.toInt32)), (.int 3), (.ref va)])) _
    refine st21 _ ?_
    refine XS.iinc X21.here hx rfl (hb hby d27_32) rfl (l' := #[.val (.ref ca), .val (.int ((3 : Int32) + (1 : Int32))), .val (.ref va), .val (.int 3), .val (.int 4), .val (.int 3), .val (.int y3)]) rfl ?_
    show Steps _ _ _ (T21.setTop (mkF m 35 #[.val (.ref ca), .val (.int ((3 : Int32) + (1 : Int32))), .val (.ref va), .val (.int 3), .val (.int 4), .val (.int 3), .val (.int y3)] [])) _
    rw [show ((3 : Int32) + (1 : Int32)) = (4 : Int32) from by decide]
    show Steps _ _ _ (T21.setTop (mkF m 35 #[.val (.ref ca), .val (.int 4), .val (.ref va), .val (.int 3), .val (.int 4), .val (.int 3), .val (.int y3)] [])) _
    refine XS.iinc X21.here hx rfl (hb hby d27_35) rfl (l' := #[.val (.ref ca), .val (.int 4), .val (.ref va), .val (.int ((3 : Int32) + (1 : Int32))), .val (.int 4), .val (.int 3), .val (.int y3)]) rfl ?_
    show Steps _ _ _ (T21.setTop (mkF m 38 #[.val (.ref ca), .val (.int 4), .val (.ref va), .val (.int ((3 : Int32) + (1 : Int32))), .val (.int 4), .val (.int 3), .val (.int y3)] [])) _
    rw [show ((3 : Int32) + (1 : Int32)) = (4 : Int32) from by decide]
    show Steps _ _ _ (T21.setTop (mkF m 38 #[.val (.ref ca), .val (.int 4), .val (.ref va), .val (.int 4), .val (.int 4), .val (.int 3), .val (.int y3)] [])) _
    refine XS.iinc X21.here hx rfl (hb hby d27_38) rfl (l' := #[.val (.ref ca), .val (.int 4), .val (.ref va), .val (.int 4), .val (.int 4), .val (.int ((3 : Int32) + (1 : Int32))), .val (.int y3)]) rfl ?_
    show Steps _ _ _ (T21.setTop (mkF m 41 #[.val (.ref ca), .val (.int 4), .val (.ref va), .val (.int 4), .val (.int 4), .val (.int ((3 : Int32) + (1 : Int32))), .val (.int y3)] [])) _
    rw [show ((3 : Int32) + (1 : Int32)) = (4 : Int32) from by decide]
    show Steps _ _ _ (T21.setTop (mkF m 41 #[.val (.ref ca), .val (.int 4), .val (.ref va), .val (.int 4), .val (.int 4), .val (.int 4), .val (.int y3)] [])) _
    refine XS.goto X21.here hx rfl (pc0 := 41) (pc' := 3) rfl (hb hby d27_41) (by decide) (by decide) ?_
    refine XS.iload X21.here hx rfl (hb hby d27_3) rfl  ?_
    refine XS.iload X21.here hx rfl (hb hby d27_5) rfl  ?_
    refine XS.icmpYes X21.here hx rfl (pc0 := 7) (pc' := 44) rfl (hb hby d27_7) rfl (flt (by decide)).2.1 (by decide) (by decide) ?_
    refine XS.iload X21.here hx rfl (hb hby d27_44) rfl  ?_
    show Steps _ _ _ (T21.setTop (mkF m 46 #[.val (.ref ca), .val (.int 4), .val (.ref va), .val (.int 4), .val (.int 4), .val (.int 4), .val (.int y3)] [(.int 4)])) _
    exact retI X21 hx Bd.returns (hb hby d27_46) hrZ
  · show Q27n4 Z ca va kc kv y0 y1 y2 y3 z0 z1 z2 z3 h0 n0 _ T21.heap _
    rw [e21]
    exact ⟨rfl, N21, K23, (by have q := V21; simp only [m0, m1, m2, m3] at q; exact q)⟩
theorem ef26n4 (m : MethodId) (ca : Addr) : entryFrame m #[(.ref ca), (.int 0), (.int 4)] 6 = mkF m 0 #[.val (.ref ca), .val (.int 0), .val (.int 4), .unset, .unset, .unset] [] := by first | (simp [entryFrame, mkF, argsToLocals, Value.category]; done) | rfl
def Q26n4 (Z : State) (ca : Addr) (kc : ClassId) (y0 : Int32) (y1 : Int32) (y2 : Int32) (y3 : Int32) (h0 : Heap) (n0 : Nat) (v : Option Value) (h : Heap) (L : List Loc) : Prop := ∃ (va : Addr) (kv : ClassId), v = some (.ref va) ∧ Fr n0 L ∧ Keep h0 h [] ∧ n0 ≤ va ∧ h0.size ≤ va ∧ Arv Z h va kv .byte (4 : Int32) [(.int y0), (.int y1), (.int y2), (.int y3)] (.int 0)
theorem rm26n4 (l : Launch) (Z : State) (a0 : Array Value) (hw : ∀ d ∈ tables_1, d.before a0 Z = true) (ws : List Jvm.Cond) (ca : Addr) (kc : ClassId) (y0 : Int32) (y1 : Int32) (y2 : Int32) (y3 : Int32) (h0 : Heap) (n0 : Nat) (Z0 : n0 ≤ h0.size) (Vx1 : Arv Z h0 ca kc .char (4 : Int32) [(.int y0), (.int y1), (.int y2), (.int y3)] (.int 0)) (l0 : ¬ ((255 : Int32) < y0)) (l1 : ¬ ((255 : Int32) < y1)) (l2 : ¬ ((255 : Int32) < y2)) (l3 : ¬ ((255 : Int32) < y3)) (m0 : (y0.toInt8.toInt32) = y0) (m1 : (y1.toInt8.toInt32) = y1) (m2 : (y2.toInt8.toInt32) = y2) (m3 : (y3.toInt8.toInt32) = y3) :
    MetFree l oM32 (head1 (Jvm.Cond.code oM32 jdk_52_method_16_code 6 (some (.array .byte)) :: ws) oR31) (fun a U => a = #[(.ref ca), (.int 0), (.int 4)] ∧ Z.Warmed39 U.vm ∧ U.heap = h0) (fun _ _ _ _ _ => True) (fun _ U o U' => ∃ v L, o = .returned v ∧ Q26n4 Z ca kc y0 y1 y2 y3 h0 n0 v U'.heap L ∧ FrameEnd U o U' L oR31.cells oR31.slots) := by
  refine MetFree.of_bodySF (plainFor_of_name pn26) hisR ?_
  intro p e s m args below meth c s₁ Bd hml0 hP hK
  obtain ⟨rfl, hZ, hh⟩ := hP
  have hx := Bd.exec
  have hby := Bd.bytes
  have hml : c.maxLocals = 6 := hml0
  have hown : s.vm.findClass "java/lang/StringUTF16" = some m.cls := findClass_of_methodNamed Bd.named
  have hnm := (name_of_methodNamed Bd.named Bd.method).1
  have X0 : Stand p l e oR31 s m #[(.ref ca), (.int 0), (.int 4)] below meth c s₁ [] 0 0 := Stand.of_body Bd
  have e0 : s₁.heap = h0 := by rw [← hh, Bd.state]; rfl
  have N0 := Fr.nil n0
  have pre0 : ∀ tZ, Steps p.tables e below (s₁.setTop (mkF m 0 #[.val (.ref ca), .val (.int 0), .val (.int 4), .unset, .unset, .unset] [])) tZ → Steps p.tables e below (s₁.setTop (entryFrame m #[(.ref ca), (.int 0), (.int 4)] 6)) tZ := fun tZ kZ => castTop (ef26n4 m ca) kZ
  obtain ⟨T1, h1, k1, X1, e1, E1, A1, st1⟩ := newP X0 hx hZ (ow hw 4 rfl) e0 (g := (mkF m 1 #[.val (.ref ca), .val (.int 0), .val (.int 4), .unset, .unset, .unset] [(.int 4)])) rfl (hb hby d26_1) rfl (by decide) (cap := 4) (by decide) (by decide) (by decide) (by decide)
  obtain ⟨b1, g1⟩ : ∃ z, z = h0.size := ⟨_, rfl⟩
  rw [← g1] at A1 st1
  have ne2 : ca ≠ b1 := Nat.ne_of_lt (Nat.lt_of_lt_of_le Vx1.lt (Nat.le_of_eq g1.symm))
  have gn_b1 : n0 ≤ b1 := Nat.le_trans Z0 (Nat.le_of_eq g1.symm)
  have sz_b1 : h0.size ≤ b1 := Nat.le_trans (Keep.refl h0 []).1 (Nat.le_of_eq g1.symm)
  have Z3 : n0 ≤ h1.size := Nat.le_trans Z0 E1.1
  have K4 : Keep h0 h1 [] := (Keep.refl h0 []).ext E1
  have V1 : Arv Z h1 b1 k1 .byte (4 : Int32) [(.int 0), (.int 0), (.int 0), (.int 0)] (.int 0) := (Arv.new A1 (by decide)).pad (pad_rep [] (.int 0) 4)
  have fa5 := (Vx1.ext E1)
  obtain ⟨_, _, ⟨T6, L6, k6, n6⟩, -, X6, ⟨Lc6, hQ6, l6, y6, z6⟩, st6⟩ := Jvm.LawKit.callS X1 hx (y := oM31) hown (mvT hZ (ow hw 152 rfl)) (mvT hZ (ow hw 153 rfl)) (mvT hZ (ow hw 150 rfl)) (mvT hZ (ow hw 154 rfl)) (by decide) (backOf (W := 0) (rm27n4 l Z a0 hw [] ca b1 kc k1 y0 y1 y2 y3 (0 : Int32) (0 : Int32) (0 : Int32) (0 : Int32) h1 n0 Z3 fa5 V1 ne2 gn_b1 (by first | assumption | decide | omega) (by first | assumption | decide | omega) (by first | assumption | decide | omega) (by first | assumption | decide | omega) (by first | assumption | decide | omega) (by first | assumption | decide | omega) (by first | assumption | decide | omega) (by first | assumption | decide | omega)) hZ (ow hw 154 rfl) (ow hw 150 rfl) (by decide) (by decide)) (g := (mkF m 9 #[.val (.ref ca), .val (.int 0), .val (.int 4), .val (.ref b1), .unset, .unset] [(.int 4), (.int 0), (.ref b1), (.int 0), (.ref ca)])) rfl (by rw [hml]; rfl) (argsL := [(.ref ca), (.int 0), (.ref b1), (.int 0), (.int 4)]) (rest := []) (lenOf pd27 rfl) rfl (Nat.le_of_eq rfl) (hb hby d26_9) (fun _ _ => ⟨rfl, e1, (by decide : 1 + 0 ≤ _), (by decide : 4 + 0 ≤ _)⟩)
  dsimp only [Pt.U, Pt.locs, Pt.cells, Pt.slots] at X6 l6 y6 z6 st6 hQ6
  subst l6 y6 z6
  obtain ⟨rfl, N6q, K6, f6_0⟩ := hQ6
  have N6 := Fr.app N0 N6q
  have Z7 : n0 ≤ T6.heap.size := Nat.le_trans Z3 K6.1
  have K8 : Keep h0 T6.heap [] := K4.trans K6 (allS (P := fun x => x ∈ _ ∨ _) (Or.inr sz_b1) all0)
  obtain ⟨fsZ, hrZ, hrun, hended, hW, hsame⟩ := X6.leave (v := some (.ref b1)) (fun h => by rw [Bd.returns] at h; cases h)
  refine ⟨_, _, pre0 _ ?_, hrun, hended, _, _, rfl, ?_, ⟨_, rfl⟩, hW, hsame.mono (by decide) (by decide)⟩
  · show Steps _ _ _ (s₁.setTop (mkF m 0 #[.val (.ref ca), .val (.int 0), .val (.int 4), .unset, .unset, .unset] [])) _
    refine XS.iloadN X0.here hx rfl (hb hby d26_0) rfl  ?_
    show Steps _ _ _ (s₁.setTop (mkF m 1 #[.val (.ref ca), .val (.int 0), .val (.int 4), .unset, .unset, .unset] [(.int 4)])) _
    refine st1 _ ?_
    refine XS.astoreN X1.here hx rfl (hb hby d26_3) rfl rfl (l' := #[.val (.ref ca), .val (.int 0), .val (.int 4), .val (.ref b1), .unset, .unset]) rfl ?_
    refine XS.aloadN X1.here hx rfl (hb hby d26_4) rfl rfl ?_
    refine XS.iloadN X1.here hx rfl (hb hby d26_5) rfl  ?_
    refine XS.aloadN X1.here hx rfl (hb hby d26_6) rfl rfl ?_
    refine XS.iconst X1.here hx rfl (hb hby d26_7) ?_
    refine XS.iloadN X1.here hx rfl (hb hby d26_8) rfl  ?_
    show Steps _ _ _ (T1.setTop (mkF m 9 #[.val (.ref ca), .val (.int 0), .val (.int 4), .val (.ref b1), .unset, .unset] [(.int 4), (.int 0), (.ref b1), (.int 0), (.ref ca)])) _
    refine st6 _ ?_
    refine XS.istore X6.here hx rfl (hb hby d26_12) rfl (l' := #[.val (.ref ca), .val (.int 0), .val (.int 4), .val (.ref b1), .val (.int 4), .unset]) rfl ?_
    refine XS.iload X6.here hx rfl (hb hby d26_14) rfl  ?_
    refine XS.iloadN X6.here hx rfl (hb hby d26_16) rfl  ?_
    refine XS.icmpYes X6.here hx rfl (pc0 := 17) (pc' := 57) rfl (hb hby d26_17) rfl (teq (by decide)).1 (by decide) (by decide) ?_
    refine XS.aloadN X6.here hx rfl (hb hby d26_57) rfl rfl ?_
    show Steps _ _ _ (T6.setTop (mkF m 58 #[.val (.ref ca), .val (.int 0), .val (.int 4), .val (.ref b1), .val (.int 4), .unset] [(.ref b1)])) _
    jvm_step X6.here [X6.here.top, hx, (hb hby d26_58), X6.method', Bd.returns, Value.isRef, FieldType.isReference]
    first | (intro acts; rw [hrZ _ acts rfl rfl rfl]) | rw [hrZ _ _ rfl rfl rfl]
    exact Steps.refl _
  · show Q26n4 Z ca kc y0 y1 y2 y3 h0 n0 _ T6.heap _
    exact ⟨b1, k1, rfl, N6, K8, gn_b1, sz_b1, f6_0⟩
theorem ef28n4 (m : MethodId) (va : Addr) : entryFrame m #[(.ref va), (.int 4)] 2 = mkF m 0 #[.val (.ref va), .val (.int 4)] [] := by first | (simp [entryFrame, mkF, argsToLocals, Value.category]; done) | rfl
def Q28n4 (Z : State) (va : Addr) (kv : ClassId) (y0 : Int32) (y1 : Int32) (y2 : Int32) (y3 : Int32) (h0 : Heap) (n0 : Nat) (v : Option Value) (h : Heap) (L : List Loc) : Prop := v = some (.int 0) ∧ Fr n0 L ∧ h = h0
theorem rm28n4 (l : Launch) (Z : State) (a0 : Array Value) (hw : ∀ d ∈ tables_1, d.before a0 Z = true) (ws : List Jvm.Cond) (va : Addr) (kv : ClassId) (y0 : Int32) (y1 : Int32) (y2 : Int32) (y3 : Int32) (h0 : Heap) (n0 : Nat) (Z0 : n0 ≤ h0.size) (Vx1 : Arv Z h0 va kv .byte (4 : Int32) [(.int y0), (.int y1), (.int y2), (.int y3)] (.int 0)) :
    MetFree l oM33 (head1 (Jvm.Cond.code oM33 jdk_52_method_15_code 2 (some .byte) :: ws) oR1) (fun a U => a = #[(.ref va), (.int 4)] ∧ Z.Warmed39 U.vm ∧ U.heap = h0) (fun _ _ _ _ _ => True) (fun _ U o U' => ∃ v L, o = .returned v ∧ Q28n4 Z va kv y0 y1 y2 y3 h0 n0 v U'.heap L ∧ FrameEnd U o U' L oR1.cells oR1.slots) := by
  refine MetFree.of_bodySF (plainFor_of_name pn26) hisR ?_
  intro p e s m args below meth c s₁ Bd hml0 hP hK
  obtain ⟨rfl, hZ, hh⟩ := hP
  have hx := Bd.exec
  have hby := Bd.bytes
  have hml : c.maxLocals = 2 := hml0
  have hown : s.vm.findClass "java/lang/StringUTF16" = some m.cls := findClass_of_methodNamed Bd.named
  have hnm := (name_of_methodNamed Bd.named Bd.method).1
  have X0 : Stand p l e oR1 s m #[(.ref va), (.int 4)] below meth c s₁ [] 0 0 := Stand.of_body Bd
  have e0 : s₁.heap = h0 := by rw [← hh, Bd.state]; rfl
  have N0 := Fr.nil n0
  have pre0 : ∀ tZ, Steps p.tables e below (s₁.setTop (mkF m 0 #[.val (.ref va), .val (.int 4)] [])) tZ → Steps p.tables e below (s₁.setTop (entryFrame m #[(.ref va), (.int 4)] 2)) tZ := fun tZ kZ => castTop (ef28n4 m va) kZ
  obtain ⟨c1, Arc1, -, Sc1, Mc1, -, -⟩ := id Vx1
  obtain ⟨fsZ, hrZ, hrun, hended, hW, hsame⟩ := X0.leave (v := some (.int 0)) (fun h => by rw [Bd.returns] at h; cases h)
  refine ⟨_, _, pre0 _ ?_, hrun, hended, _, _, rfl, ?_, ⟨_, rfl⟩, hW, hsame.mono (by decide) (by decide)⟩
  · show Steps _ _ _ (s₁.setTop (mkF m 0 #[.val (.ref va), .val (.int 4)] [])) _
    refine XS.iloadN X0.here hx rfl (hb hby d28_0) rfl  ?_
    refine XS.aloadN X0.here hx rfl (hb hby d28_1) rfl rfl ?_
    show Steps _ _ _ (s₁.setTop (mkF m 2 #[.val (.ref va), .val (.int 4)] [(.ref va), (.int 4)])) _
    refine X0.arraylength hx (by rw [e0]; exact Arc1.1) (State.isArrayOf_alike hZ.alike Arc1.2.1) (g := (mkF m 2 #[.val (.ref va), .val (.int 4)] [(.ref va), (.int 4)])) rfl rfl (hb hby d28_2) _ ?_
    rw [len_of Sc1 Mc1]
    show Steps _ _ _ (s₁.setTop (mkF m 3 #[.val (.ref va), .val (.int 4)] [(.int 4), (.int 4)])) _
    refine XS.isub X0.here hx rfl (hb hby d28_3) rfl ?_
    show Steps _ _ _ (s₁.setTop (mkF m 4 #[.val (.ref va), .val (.int 4)] [(.int ((4 : Int32) - (4 : Int32)))])) _
    rw [show ((4 : Int32) - (4 : Int32)) = (0 : Int32) from by decide]
    show Steps _ _ _ (s₁.setTop (mkF m 4 #[.val (.ref va), .val (.int 4)] [(.int 0)])) _
    refine XS.bipush X0.here hx rfl (hb hby d28_4) ?_
    refine XS.iushr X0.here hx rfl (hb hby d28_6) rfl ?_
    show Steps _ _ _ (s₁.setTop (mkF m 7 #[.val (.ref va), .val (.int 4)] [(.int (((0 : Int32).toUInt32 >>> ((31 : Int32) &&& 31).toUInt32).toInt32))])) _
    rw [show (((0 : Int32).toUInt32 >>> ((31 : Int32) &&& 31).toUInt32).toInt32) = (0 : Int32) from by decide]
    show Steps _ _ _ (s₁.setTop (mkF m 7 #[.val (.ref va), .val (.int 4)] [(.int 0)])) _
    refine XS.i2b X0.here hx rfl (hb hby d28_7) rfl ?_
    show Steps _ _ _ (s₁.setTop (mkF m 8 #[.val (.ref va), .val (.int 4)] [(.int ((0 : Int32).toInt8.toInt32))])) _
    rw [show ((0 : Int32).toInt8.toInt32) = (0 : Int32) from by decide]
    show Steps _ _ _ (s₁.setTop (mkF m 8 #[.val (.ref va), .val (.int 4)] [(.int 0)])) _
    exact retN X0 hx (t := .byte) Bd.returns (by simp) (hb hby d28_8) hrZ
  · show Q28n4 Z va kv y0 y1 y2 y3 h0 n0 _ s₁.heap _
    rw [e0]
    exact ⟨rfl, N0, rfl⟩
theorem ef25n4 (m : MethodId) (sa : Addr) (ca : Addr) : entryFrame m #[(.ref sa), (.ref ca), (.int 0), (.int 4), .null] 6 = mkF m 0 #[.val (.ref sa), .val (.ref ca), .val (.int 0), .val (.int 4), .val .null, .unset] [] := by first | (simp [entryFrame, mkF, argsToLocals, Value.category]; done) | rfl
def Q25n4 (Z : State) (sa : Addr) (ca : Addr) (u1 : Value) (u2 : Value) (kc : ClassId) (y0 : Int32) (y1 : Int32) (y2 : Int32) (y3 : Int32) (cs : Int32) (h0 : Heap) (n0 : Nat) (v : Option Value) (h : Heap) (L : List Loc) : Prop := ∃ (vb : Addr) (kb : ClassId), v = none ∧ Fr n0 L ∧ Keep h0 h [sa] ∧ n0 ≤ vb ∧ h0.size ≤ vb ∧ Exa Z h sa oS ∧ Fld Z h sa oS "coder" "B" (.int 0) ∧ Fld Z h sa oS "value" "[B" (.ref vb) ∧ Arv Z h vb kb .byte (4 : Int32) [(.int y0), (.int y1), (.int y2), (.int y3)] (.int 0)
theorem rm25n4 (l : Launch) (Z : State) (a0 : Array Value) (hw : ∀ d ∈ tables_1, d.before a0 Z = true) (ws : List Jvm.Cond) (sa : Addr) (ca : Addr) (u1 : Value) (u2 : Value) (kc : ClassId) (y0 : Int32) (y1 : Int32) (y2 : Int32) (y3 : Int32) (cs : Int32) (h0 : Heap) (n0 : Nat) (Z0 : n0 ≤ h0.size) (Ex0 : Exa Z h0 sa oS) (S1 : Fld Z h0 sa oS "coder" "B" u1) (S2 : Fld Z h0 sa oS "value" "[B" u2) (gx0 : n0 ≤ sa) (Vx1 : Arv Z h0 ca kc .char (4 : Int32) [(.int y0), (.int y1), (.int y2), (.int y3)] (.int 0)) (nx1_ : sa ≠ ca) (l0 : ¬ ((255 : Int32) < y0)) (l1 : ¬ ((255 : Int32) < y1)) (l2 : ¬ ((255 : Int32) < y2)) (l3 : ¬ ((255 : Int32) < y3)) (m0 : (y0.toInt8.toInt32) = y0) (m1 : (y1.toInt8.toInt32) = y1) (m2 : (y2.toInt8.toInt32) = y2) (m3 : (y3.toInt8.toInt32) = y3) (Cs : Sta Z Z.heap oS "COMPACT_STRINGS" "Z" (.int cs)) (hcs : ¬ (cs = (0 : Int32))) (Ox : Old Z n0 h0) :
    MetFree l oM34 (head1 (Jvm.Cond.code oM34 jdk_42_method_149_code 6 none :: ws) oR32) (fun a U => a = #[(.ref sa), (.ref ca), (.int 0), (.int 4), .null] ∧ Z.Warmed39 U.vm ∧ U.heap = h0) (fun _ _ _ _ _ => True) (fun _ U o U' => ∃ v L, o = .returned v ∧ Q25n4 Z sa ca u1 u2 kc y0 y1 y2 y3 cs h0 n0 v U'.heap L ∧ FrameEnd U o U' L oR32.cells oR32.slots) := by
  refine MetFree.of_bodySF (plainFor_of_name pn17) hisR ?_
  intro p e s m args below meth c s₁ Bd hml0 hP hK
  obtain ⟨rfl, hZ, hh⟩ := hP
  have hx := Bd.exec
  have hby := Bd.bytes
  have hml : c.maxLocals = 6 := hml0
  have hown : s.vm.findClass oS = some m.cls := findClass_of_methodNamed Bd.named
  have hnm := (name_of_methodNamed Bd.named Bd.method).1
  have X0 : Stand p l e oR32 s m #[(.ref sa), (.ref ca), (.int 0), (.int 4), .null] below meth c s₁ [] 0 0 := Stand.of_body Bd
  have e0 : s₁.heap = h0 := by rw [← hh, Bd.state]; rfl
  have N0 := Fr.nil n0
  have pre0 : ∀ tZ, Steps p.tables e below (s₁.setTop (mkF m 0 #[.val (.ref sa), .val (.ref ca), .val (.int 0), .val (.int 4), .val .null, .unset] [])) tZ → Steps p.tables e below (s₁.setTop (entryFrame m #[(.ref sa), (.ref ca), (.int 0), (.int 4), .null] 6)) tZ := fun tZ kZ => castTop (ef25n4 m sa ca) kZ
  obtain ⟨T1, X1, e1, st1⟩ := initO X0 hx hZ hown (ow hw 72 rfl) (ow hw 16 rfl) (ow hw 17 rfl) e0 (g := (mkF m 1 #[.val (.ref sa), .val (.ref ca), .val (.int 0), .val (.int 4), .val .null, .unset] [(.ref sa)])) rfl (by rw [hml]; rfl) rfl (hb hby d25_1) (by decide) (W := 0) (Nat.le_of_eq rfl) (by decide)
  obtain ⟨T2, X2, e2, st2⟩ := getS2 X1 hx hZ hown (host := "") (Or.inl (ow hw 120 rfl)) Via.refl e1 (Cs.ext Ox.2) (g := (mkF m 27 #[.val (.ref sa), .val (.ref ca), .val (.int 0), .val (.int 4), .val .null, .unset] [])) rfl (hb hby d25_27)
  obtain ⟨_, _, ⟨T3, L3, k3, n3⟩, -, X3, ⟨Lc3, hQ3, l3, y3, z3⟩, st3⟩ := Jvm.LawKit.callS X2 hx (y := oM32) hown (mvT hZ (ow hw 148 rfl)) (mvT hZ (ow hw 149 rfl)) (mvT hZ (ow hw 150 rfl)) (mvT hZ (ow hw 151 rfl)) (by decide) (backOf (W := 0) (rm26n4 l Z a0 hw [] ca kc y0 y1 y2 y3 h0 n0 Z0 Vx1 (by first | assumption | decide | omega) (by first | assumption | decide | omega) (by first | assumption | decide | omega) (by first | assumption | decide | omega) (by first | assumption | decide | omega) (by first | assumption | decide | omega) (by first | assumption | decide | omega) (by first | assumption | decide | omega)) hZ (ow hw 151 rfl) (ow hw 150 rfl) (by decide) (by decide)) (g := (mkF m 36 #[.val (.ref sa), .val (.ref ca), .val (.int 0), .val (.int 4), .val .null, .unset] [(.int 4), (.int 0), (.ref ca)])) rfl (by rw [hml]; rfl) (argsL := [(.ref ca), (.int 0), (.int 4)]) (rest := []) (lenOf pd28 rfl) rfl (Nat.le_of_eq rfl) (hb hby d25_36) (fun _ _ => ⟨rfl, e2, (by decide : 0 + 1 ≤ _), (by decide : 0 + 4 ≤ _)⟩)
  dsimp only [Pt.U, Pt.locs, Pt.cells, Pt.slots] at X3 l3 y3 z3 st3 hQ3
  subst l3 y3 z3
  obtain ⟨va_4, kv_5, rfl, N3q, K3, u3_0, u3_1, f3_0⟩ := hQ3
  have N3 := Fr.app N0 N3q
  have Z6 : n0 ≤ T3.heap.size := Nat.le_trans Z0 K3.1
  have K7 : Keep h0 T3.heap [sa] := (Keep.refl h0 [sa]).trans K3 all0
  have ne8 : sa ≠ va_4 := Nat.ne_of_lt (Nat.lt_of_lt_of_le Ex0.lt u3_1)
  have ne9 : ca ≠ va_4 := Nat.ne_of_lt (Nat.lt_of_lt_of_le Vx1.lt u3_1)
  have sz_va_4 : h0.size ≤ va_4 := Nat.le_trans (Keep.refl h0 [sa]).1 u3_1
  obtain ⟨_, _, ⟨T10, L10, k10, n10⟩, -, X10, ⟨Lc10, hQ10, l10, y10, z10⟩, st10⟩ := Jvm.LawKit.callS X3 hx (y := oM33) hown (mvT hZ (ow hw 155 rfl)) (mvT hZ (ow hw 156 rfl)) (mvT hZ (ow hw 150 rfl)) (mvT hZ (ow hw 157 rfl)) (by decide) (backOf (W := 1) (rm28n4 l Z a0 hw [] va_4 kv_5 y0 y1 y2 y3 T3.heap n0 Z6 f3_0) hZ (ow hw 157 rfl) (ow hw 150 rfl) (by decide) (by decide)) (g := (mkF m 45 #[.val (.ref sa), .val (.ref ca), .val (.int 0), .val (.int 4), .val .null, .val (.ref va_4)] [(.int 4), (.ref va_4), (.ref sa)])) rfl (by rw [hml]; rfl) (argsL := [(.ref va_4), (.int 4)]) (rest := [(.ref sa)]) (lenOf pd29 rfl) rfl (Nat.le_of_eq rfl) (hb hby d25_45) (fun _ _ => ⟨rfl, rfl, (by decide : 1 + 0 ≤ _), (by decide : 4 + 0 ≤ _)⟩)
  dsimp only [Pt.U, Pt.locs, Pt.cells, Pt.slots] at X10 l10 y10 z10 st10 hQ10
  subst l10 y10 z10
  obtain ⟨rfl, N10q, e10⟩ := hQ10
  have N10 := Fr.app N3 N10q
  have fa11 := (S1.keep K3 nin0)
  have fa12 := (Ex0.keep K3)
  obtain ⟨T13, h13, X13, e13, W13, st13⟩ := putFN X10 hx hZ hown (ow hw 94 rfl) Via.refl e10 fa11 fa12 (Or.inr ⟨(ow hw 6 rfl), rfl, hnm⟩) (ow hw 3 rfl) (ty := .byte) (v' := (.int 0)) (by decide) rfl (by decide) (g := (mkF m 48 #[.val (.ref sa), .val (.ref ca), .val (.int 0), .val (.int 4), .val .null, .val (.ref va_4)] [(.int 0), (.ref sa)])) rfl rfl (hb hby d25_48)
  have fw13 : Fld Z h13 sa oS "coder" "B" (.int 0) := fa11.same W13
  have Z14 : n0 ≤ h13.size := Nat.le_trans Z6 (Nat.le_of_eq W13.size.symm)
  have K15 : Keep h0 h13 [sa] := K7.wr W13 (Or.inl (List.mem_of_getElem? (i := 0) rfl))
  have N13 := Fr.snoc X13 N10 gx0
  have fa16 := ((S2.keep K3 nin0).other W13 (Or.inr (slot_ne (Or.inr (ow hw 5 rfl)) (Or.inr (ow hw 6 rfl)) (by decide) (t := (.array .byte)) (t' := .byte) (by decide) (by decide))))
  have fa17 := (fa12.wr W13)
  obtain ⟨T18, h18, X18, e18, W18, st18⟩ := putF X13 hx hZ hown (host := "") (Or.inl (ow hw 113 rfl)) Via.refl e13 fa16 fa17 (Or.inr ⟨(ow hw 5 rfl), rfl, hnm⟩) (ow hw 3 rfl) (ty := (.array .byte)) (by decide) rfl rfl (g := (mkF m 54 #[.val (.ref sa), .val (.ref ca), .val (.int 0), .val (.int 4), .val .null, .val (.ref va_4)] [(.ref va_4), (.ref sa)])) rfl rfl (hb hby d25_54)
  have fw18 : Fld Z h18 sa oS "value" "[B" (.ref va_4) := fa16.same W18
  have Z19 : n0 ≤ h18.size := Nat.le_trans Z14 (Nat.le_of_eq W18.size.symm)
  have K20 : Keep h0 h18 [sa] := K15.wr W18 (Or.inl (List.mem_of_getElem? (i := 0) rfl))
  have N18 := Fr.snoc X18 N13 gx0
  obtain ⟨fsZ, hrZ, hrun, hended, hW, hsame⟩ := X18.leave (v := none) (fun _ => rfl)
  have fa21 := (fa17.wr W18)
  have fa22 := (fw13.other W18 (Or.inr (slot_ne (Or.inr (ow hw 6 rfl)) (Or.inr (ow hw 5 rfl)) (by decide) (t := .byte) (t' := (.array .byte)) (by decide) (by decide))))
  have fa23 := ((f3_0.other W13 (Ne.symm ne8)).other W18 (Ne.symm ne8))
  refine ⟨_, _, pre0 _ ?_, hrun, hended, _, _, rfl, ?_, ⟨_, rfl⟩, hW, hsame.mono (by decide) (by decide)⟩
  · show Steps _ _ _ (s₁.setTop (mkF m 0 #[.val (.ref sa), .val (.ref ca), .val (.int 0), .val (.int 4), .val .null, .unset] [])) _
    refine XS.aloadN X0.here hx rfl (hb hby d25_0) rfl rfl ?_
    show Steps _ _ _ (s₁.setTop (mkF m 1 #[.val (.ref sa), .val (.ref ca), .val (.int 0), .val (.int 4), .val .null, .unset] [(.ref sa)])) _
    refine st1 _ ?_
    refine XS.iloadN X1.here hx rfl (hb hby d25_4) rfl  ?_
    refine XS.ifYes X1.here hx rfl (pc0 := 5) (pc' := 27) rfl (hb hby d25_5) rfl ((if0 _ _).trans (feq (by decide)).2) (by decide) (by decide) ?_
    show Steps _ _ _ (T1.setTop (mkF m 27 #[.val (.ref sa), .val (.ref ca), .val (.int 0), .val (.int 4), .val .null, .unset] [])) _
    refine st2 _ ?_
    refine XS.ifNo X2.here hx rfl (hb hby d25_30) rfl ((if0 _ _).trans (feq hcs).1) ?_
    refine XS.aloadN X2.here hx rfl (hb hby d25_33) rfl rfl ?_
    refine XS.iloadN X2.here hx rfl (hb hby d25_34) rfl  ?_
    refine XS.iloadN X2.here hx rfl (hb hby d25_35) rfl  ?_
    show Steps _ _ _ (T2.setTop (mkF m 36 #[.val (.ref sa), .val (.ref ca), .val (.int 0), .val (.int 4), .val .null, .unset] [(.int 4), (.int 0), (.ref ca)])) _
    refine st3 _ ?_
    refine XS.astore X3.here hx rfl (hb hby d25_39) rfl rfl (l' := #[.val (.ref sa), .val (.ref ca), .val (.int 0), .val (.int 4), .val .null, .val (.ref va_4)]) rfl ?_
    refine XS.aloadN X3.here hx rfl (hb hby d25_41) rfl rfl ?_
    refine XS.aload X3.here hx rfl (hb hby d25_42) rfl rfl ?_
    refine XS.iloadN X3.here hx rfl (hb hby d25_44) rfl  ?_
    show Steps _ _ _ (T3.setTop (mkF m 45 #[.val (.ref sa), .val (.ref ca), .val (.int 0), .val (.int 4), .val .null, .val (.ref va_4)] [(.int 4), (.ref va_4), (.ref sa)])) _
    refine st10 _ ?_
    show Steps _ _ _ (T10.setTop (mkF m 48 #[.val (.ref sa), .val (.ref ca), .val (.int 0), .val (.int 4), .val .null, .val (.ref va_4)] [(.int 0), (.ref sa)])) _
    refine st13 _ ?_
    refine XS.aloadN X13.here hx rfl (hb hby d25_51) rfl rfl ?_
    refine XS.aload X13.here hx rfl (hb hby d25_52) rfl rfl ?_
    show Steps _ _ _ (T13.setTop (mkF m 54 #[.val (.ref sa), .val (.ref ca), .val (.int 0), .val (.int 4), .val .null, .val (.ref va_4)] [(.ref va_4), (.ref sa)])) _
    refine st18 _ ?_
    show Steps _ _ _ (T18.setTop (mkF m 57 #[.val (.ref sa), .val (.ref ca), .val (.int 0), .val (.int 4), .val .null, .val (.ref va_4)] [])) _
    exact X18.returnOut hx Bd.returns (hb hby d25_57) hrZ
  · show Q25n4 Z sa ca u1 u2 kc y0 y1 y2 y3 cs h0 n0 _ T18.heap _
    rw [e18]
    exact ⟨va_4, kv_5, rfl, N18, K20, u3_0, sz_va_4, fa21, fa22, fw18, fa23⟩
theorem ef24n4 (m : MethodId) (sa : Addr) (ca : Addr) : entryFrame m #[(.ref sa), (.ref ca)] 2 = mkF m 0 #[.val (.ref sa), .val (.ref ca)] [] := by first | (simp [entryFrame, mkF, argsToLocals, Value.category]; done) | rfl
def Q24n4 (Z : State) (sa : Addr) (ca : Addr) (u1 : Value) (u2 : Value) (kc : ClassId) (y0 : Int32) (y1 : Int32) (y2 : Int32) (y3 : Int32) (cs : Int32) (h0 : Heap) (n0 : Nat) (v : Option Value) (h : Heap) (L : List Loc) : Prop := ∃ (vb : Addr) (kb : ClassId), v = none ∧ Fr n0 L ∧ Keep h0 h [sa] ∧ n0 ≤ vb ∧ h0.size ≤ vb ∧ Exa Z h sa oS ∧ Fld Z h sa oS "coder" "B" (.int 0) ∧ Fld Z h sa oS "value" "[B" (.ref vb) ∧ Arv Z h vb kb .byte (4 : Int32) [(.int y0), (.int y1), (.int y2), (.int y3)] (.int 0)
theorem rm24n4 (l : Launch) (Z : State) (a0 : Array Value) (hw : ∀ d ∈ tables_1, d.before a0 Z = true) (ws : List Jvm.Cond) (sa : Addr) (ca : Addr) (u1 : Value) (u2 : Value) (kc : ClassId) (y0 : Int32) (y1 : Int32) (y2 : Int32) (y3 : Int32) (cs : Int32) (h0 : Heap) (n0 : Nat) (Z0 : n0 ≤ h0.size) (Ex0 : Exa Z h0 sa oS) (S1 : Fld Z h0 sa oS "coder" "B" u1) (S2 : Fld Z h0 sa oS "value" "[B" u2) (gx0 : n0 ≤ sa) (Vx1 : Arv Z h0 ca kc .char (4 : Int32) [(.int y0), (.int y1), (.int y2), (.int y3)] (.int 0)) (nx1_ : sa ≠ ca) (l0 : ¬ ((255 : Int32) < y0)) (l1 : ¬ ((255 : Int32) < y1)) (l2 : ¬ ((255 : Int32) < y2)) (l3 : ¬ ((255 : Int32) < y3)) (m0 : (y0.toInt8.toInt32) = y0) (m1 : (y1.toInt8.toInt32) = y1) (m2 : (y2.toInt8.toInt32) = y2) (m3 : (y3.toInt8.toInt32) = y3) (Cs : Sta Z Z.heap oS "COMPACT_STRINGS" "Z" (.int cs)) (hcs : ¬ (cs = (0 : Int32))) (Ox : Old Z n0 h0) :
    MetFree l oM35 (head1 (Jvm.Cond.code oM35 jdk_42_method_3_code 2 none :: ws) oR33) (fun a U => a = #[(.ref sa), (.ref ca)] ∧ Z.Warmed39 U.vm ∧ U.heap = h0) (fun _ _ _ _ _ => True) (fun _ U o U' => ∃ v L, o = .returned v ∧ Q24n4 Z sa ca u1 u2 kc y0 y1 y2 y3 cs h0 n0 v U'.heap L ∧ FrameEnd U o U' L oR33.cells oR33.slots) := by
  refine MetFree.of_bodySF (plainFor_of_name pn17) hisR ?_
  intro p e s m args below meth c s₁ Bd hml0 hP hK
  obtain ⟨rfl, hZ, hh⟩ := hP
  have hx := Bd.exec
  have hby := Bd.bytes
  have hml : c.maxLocals = 2 := hml0
  have hown : s.vm.findClass oS = some m.cls := findClass_of_methodNamed Bd.named
  have hnm := (name_of_methodNamed Bd.named Bd.method).1
  have X0 : Stand p l e oR33 s m #[(.ref sa), (.ref ca)] below meth c s₁ [] 0 0 := Stand.of_body Bd
  have e0 : s₁.heap = h0 := by rw [← hh, Bd.state]; rfl
  have N0 := Fr.nil n0
  have pre0 : ∀ tZ, Steps p.tables e below (s₁.setTop (mkF m 0 #[.val (.ref sa), .val (.ref ca)] [])) tZ → Steps p.tables e below (s₁.setTop (entryFrame m #[(.ref sa), (.ref ca)] 2)) tZ := fun tZ kZ => castTop (ef24n4 m sa ca) kZ
  obtain ⟨c1, Arc1, -, Sc1, Mc1, -, -⟩ := id Vx1
  obtain ⟨_, _, ⟨T2, L2, k2, n2⟩, -, X2, ⟨Lc2, hQ2, l2, y2, z2⟩, st2⟩ := X0.specialBack hx (y := oM34) rfl hown (mvT hZ (ow hw 145 rfl)) (mvT hZ (ow hw 146 rfl)) (mvT hZ (ow hw 147 rfl)) (by decide) (backOf (W := 0) (rm25n4 l Z a0 hw [] sa ca u1 u2 kc y0 y1 y2 y3 cs h0 n0 Z0 Ex0 S1 S2 gx0 Vx1 nx1_ (by first | assumption | decide | omega) (by first | assumption | decide | omega) (by first | assumption | decide | omega) (by first | assumption | decide | omega) (by first | assumption | decide | omega) (by first | assumption | decide | omega) (by first | assumption | decide | omega) (by first | assumption | decide | omega) Cs (by first | assumption | decide | omega) Ox) hZ (ow hw 147 rfl) (ow hw 2 rfl) (by decide) (by decide)) (g := (mkF m 6 #[.val (.ref sa), .val (.ref ca)] [.null, (.int 4), (.int 0), (.ref ca), (.ref sa)])) rfl (by rw [hml]; rfl) (Steps.refl _) (a := sa) (argsL := [(.ref ca), (.int 0), (.int 4), .null]) (rest := []) (lenOf pd30 rfl) rfl (Nat.le_of_eq rfl) (hb hby d24_6) (fun _ _ => ⟨rfl, e0, (by decide : 0 + 1 ≤ _), (by decide : 0 + 4 ≤ _)⟩)
  dsimp only [Pt.U, Pt.locs, Pt.cells, Pt.slots] at X2 l2 y2 z2 st2 hQ2
  subst l2 y2 z2
  obtain ⟨vb_3, kb_4, rfl, N2q, K2, u2_0, u2_1, f2_0, f2_1, f2_2, f2_3⟩ := hQ2
  have N2 := Fr.app N0 N2q
  have Z5 : n0 ≤ T2.heap.size := Nat.le_trans Z0 K2.1
  have K6 : Keep h0 T2.heap [sa] := (Keep.refl h0 [sa]).trans K2 (allS (P := fun x => x ∈ _ ∨ _) (Or.inl (List.mem_of_getElem? (i := 0) rfl)) all0)
  have ne7 : sa ≠ vb_3 := Nat.ne_of_lt (Nat.lt_of_lt_of_le Ex0.lt u2_1)
  have ne8 : ca ≠ vb_3 := Nat.ne_of_lt (Nat.lt_of_lt_of_le Vx1.lt u2_1)
  have sz_vb_3 : h0.size ≤ vb_3 := Nat.le_trans (Keep.refl h0 [sa]).1 u2_1
  obtain ⟨fsZ, hrZ, hrun, hended, hW, hsame⟩ := X2.leave (v := none) (fun _ => rfl)
  refine ⟨_, _, pre0 _ ?_, hrun, hended, _, _, rfl, ?_, ⟨_, rfl⟩, hW, hsame.mono (by decide) (by decide)⟩
  · show Steps _ _ _ (s₁.setTop (mkF m 0 #[.val (.ref sa), .val (.ref ca)] [])) _
    refine XS.aloadN X0.here hx rfl (hb hby d24_0) rfl rfl ?_
    refine XS.aloadN X0.here hx rfl (hb hby d24_1) rfl rfl ?_
    refine XS.iconst X0.here hx rfl (hb hby d24_2) ?_
    refine XS.aloadN X0.here hx rfl (hb hby d24_3) rfl rfl ?_
    show Steps _ _ _ (s₁.setTop (mkF m 4 #[.val (.ref sa), .val (.ref ca)] [(.ref ca), (.int 0), (.ref ca), (.ref sa)])) _
    refine X0.arraylength hx (by rw [e0]; exact Arc1.1) (State.isArrayOf_alike hZ.alike Arc1.2.1) (g := (mkF m 4 #[.val (.ref sa), .val (.ref ca)] [(.ref ca), (.int 0), (.ref ca), (.ref sa)])) rfl rfl (hb hby d24_4) _ ?_
    rw [len_of Sc1 Mc1]
    show Steps _ _ _ (s₁.setTop (mkF m 5 #[.val (.ref sa), .val (.ref ca)] [(.int 4), (.int 0), (.ref ca), (.ref sa)])) _
    refine XS.aconstNull X0.here hx rfl (hb hby d24_5) ?_
    show Steps _ _ _ (s₁.setTop (mkF m 6 #[.val (.ref sa), .val (.ref ca)] [.null, (.int 4), (.int 0), (.ref ca), (.ref sa)])) _
    refine st2.trans ?_
    show Steps _ _ _ (T2.setTop (mkF m 9 #[.val (.ref sa), .val (.ref ca)] [])) _
    exact X2.returnOut hx Bd.returns (hb hby d24_9) hrZ
  · show Q24n4 Z sa ca u1 u2 kc y0 y1 y2 y3 cs h0 n0 _ T2.heap _
    exact ⟨vb_3, kb_4, rfl, N2, K6, u2_0, sz_vb_3, f2_0, f2_1, f2_2, f2_3⟩
theorem pn31 : plainName "com/example/hewgen/hewgen/runtime/JsonPathNextIndexPinLaw" = true := by first | (simp [plainName, overriddenIn]; done) | decide +kernel
theorem pd32 : parseMethodDescriptor "(Ljava/lang/Object;)Z" = some ⟨[(.object "java/lang/Object")], some .boolean⟩ := by decide +kernel
theorem pd33 : parseMethodDescriptor "([C)V" = some ⟨[(.array .char)], none⟩ := by decide +kernel
theorem ef0 (m : MethodId) (p0 : Int32) (p1 : Int32) : entryFrame m #[(.int p0), (.int p1)] maxLocals = mkF m 0 #[.val (.int p0), .val (.int p1), .unset, .unset, .unset, .unset] [] := by first | (simp [entryFrame, mkF, argsToLocals, Value.category, maxLocals]; done) | rfl
def Q0 (Z : State) (p0 : Int32) (p1 : Int32) (cs : Int32) (da : Addr) (cd : Cell) (h0 : Heap) (n0 : Nat) (v : Option Value) (h : Heap) (L : List Loc) : Prop := v = some (.int 1) ∧ Fr n0 L
theorem rm0 (l : Launch) (Z : State) (a0 : Array Value) (hw : ∀ d ∈ tables_1, d.before a0 Z = true) (ws : List Jvm.Cond) (p0 : Int32) (p1 : Int32) (cs : Int32) (da : Addr) (cd : Cell) (h0 : Heap) (n0 : Nat) (Z0 : n0 ≤ h0.size) (Cs : Sta Z Z.heap oS "COMPACT_STRINGS" "Z" (.int cs)) (hcs : ¬ (cs = (0 : Int32))) (Ox : Old Z n0 h0) (Dd : Sta Z Z.heap oI "DigitOnes" "[B" (.ref da)) (Da : Arr Z Z.heap da cd .byte) (hds : cd.slots.size = 100) (hd0 : cd.slots[(0 : Int32).toNatClampNeg]? = some (.int 48)) (hd1 : cd.slots[(1 : Int32).toNatClampNeg]? = some (.int 49)) (hch : Jvm.Lit.constHeld Z "com/example/hewgen/hewgen/runtime/JsonPathNextIndexPinLaw" 8) (hcw : Jvm.Lit.compactW.before a0 Z = true) :
    MetFree l x (head1 (Jvm.Cond.code x code maxLocals ret :: ws) room_1) (fun a U => a = #[(.int p0), (.int p1)] ∧ Z.Warmed39 U.vm ∧ U.heap = h0 ∧ U = Z) (fun _ _ _ _ _ => True) (fun _ U o U' => ∃ v L, o = .returned v ∧ Q0 Z p0 p1 cs da cd h0 n0 v U'.heap L ∧ ReturnedEndW U o U' L room_1.cells room_1.slots) := by
  refine MetFree.of_bodySF (plainFor_of_name pn31) hisR ?_
  intro p e s m args below meth c s₁ Bd hml0 hP hK
  obtain ⟨rfl, hZ, hh, hU⟩ := hP
  have hx := Bd.exec
  have hby := Bd.bytes
  have hml : c.maxLocals = 6 := hml0
  have hown : s.vm.findClass "com/example/hewgen/hewgen/runtime/JsonPathNextIndexPinLaw" = some m.cls := findClass_of_methodNamed Bd.named
  have hnm := (name_of_methodNamed Bd.named Bd.method).1
  have X0 : Stand p l e room_1 s m #[(.int p0), (.int p1)] below meth c s₁ [] 0 0 := Stand.of_body Bd
  have e0 : s₁.heap = h0 := by rw [← hh, Bd.state]; rfl
  have N0 := Fr.nil n0
  have pre0 : ∀ tZ, Steps p.tables e below (s₁.setTop (mkF m 0 #[.val (.int p0), .val (.int p1), .unset, .unset, .unset, .unset] [])) tZ → Steps p.tables e below (s₁.setTop (entryFrame m #[(.int p0), (.int p1)] maxLocals)) tZ := fun tZ kZ => castTop (ef0 m p0 p1) kZ
  have X0 : Stand p l e room_1 (s.setVm s.vm) m #[(.int p0), (.int p1)] below meth c s₁ [] 0 0 := X0
  have hS0 : s.Since s.vm h0.size := (State.WarmedH.refl s).since _
  have hk0 : h0.size ≤ h0.size := Nat.le_refl _
  have hwS : ∀ d ∈ Bundle.stringAtoms, d.before a0 Z = true := fun d hd => by
    rcases List.mem_cons.mp hd with rfl | hd
    · exact (ow hw 2 rfl)
    rcases List.mem_cons.mp hd with rfl | hd
    · exact (ow hw 3 rfl)
    rcases List.mem_cons.mp hd with rfl | hd
    · exact (ow hw 4 rfl)
    rcases List.mem_cons.mp hd with rfl | hd
    · exact (ow hw 5 rfl)
    rcases List.mem_cons.mp hd with rfl | hd
    · exact (ow hw 6 rfl)
    rcases List.mem_cons.mp hd with rfl | hd
    · exact (ow hw 7 rfl)
    rcases List.mem_cons.mp hd with rfl | hd
    · exact (ow hw 8 rfl)
    exact nomatch hd
  have pre1 : ∀ tZ, Steps p.tables e below (s₁.setTop (mkF m 14 #[.val (.int p0), .val (.int p1), .val (.int ((p0 &&& (2147483647 : Int32)) % (3 : Int32))), .val (.int ((p1 &&& (2147483647 : Int32)) % (3 : Int32))), .unset, .unset] [])) tZ → Steps p.tables e below (s₁.setTop (entryFrame m #[(.int p0), (.int p1)] maxLocals)) tZ := fun tZ kZ => pre0 tZ (by
    show Steps _ _ _ (s₁.setTop (mkF m 0 #[.val (.int p0), .val (.int p1), .unset, .unset, .unset, .unset] [])) _
    refine XS.iloadN X0.here hx rfl (hb hby at_0) rfl  ?_
    show Steps _ _ _ (s₁.setTop (mkF m 1 #[.val (.int p0), .val (.int p1), .unset, .unset, .unset, .unset] [(.int p0)])) _
    refine X0.ldcInt hx hown (mvT hZ (ow hw 0 rfl)) (g := (mkF m 1 #[.val (.int p0), .val (.int p1), .unset, .unset, .unset, .unset] [(.int p0)])) rfl (hb hby at_1) _ ?_
    refine XS.iand X0.here hx rfl (hb hby at_3) rfl ?_
    refine XS.iconst X0.here hx rfl (hb hby at_4) ?_
    show Steps _ _ _ (s₁.setTop (mkF m 5 #[.val (.int p0), .val (.int p1), .unset, .unset, .unset, .unset] [(.int 3), (.int (p0 &&& (2147483647 : Int32)))])) _
    refine iremM X0 hx rfl (hb hby at_5) rfl (by decide) ?_
    refine XS.istoreN X0.here hx rfl (hb hby at_6) rfl (l' := #[.val (.int p0), .val (.int p1), .val (.int ((p0 &&& (2147483647 : Int32)) % (3 : Int32))), .unset, .unset, .unset]) rfl ?_
    refine XS.iloadN X0.here hx rfl (hb hby at_7) rfl  ?_
    show Steps _ _ _ (s₁.setTop (mkF m 8 #[.val (.int p0), .val (.int p1), .val (.int ((p0 &&& (2147483647 : Int32)) % (3 : Int32))), .unset, .unset, .unset] [(.int p1)])) _
    refine X0.ldcInt hx hown (mvT hZ (ow hw 0 rfl)) (g := (mkF m 8 #[.val (.int p0), .val (.int p1), .val (.int ((p0 &&& (2147483647 : Int32)) % (3 : Int32))), .unset, .unset, .unset] [(.int p1)])) rfl (hb hby at_8) _ ?_
    refine XS.iand X0.here hx rfl (hb hby at_10) rfl ?_
    refine XS.iconst X0.here hx rfl (hb hby at_11) ?_
    show Steps _ _ _ (s₁.setTop (mkF m 12 #[.val (.int p0), .val (.int p1), .val (.int ((p0 &&& (2147483647 : Int32)) % (3 : Int32))), .unset, .unset, .unset] [(.int 3), (.int (p1 &&& (2147483647 : Int32)))])) _
    refine iremM X0 hx rfl (hb hby at_12) rfl (by decide) ?_
    refine XS.istoreN X0.here hx rfl (hb hby at_13) rfl (l' := #[.val (.int p0), .val (.int p1), .val (.int ((p0 &&& (2147483647 : Int32)) % (3 : Int32))), .val (.int ((p1 &&& (2147483647 : Int32)) % (3 : Int32))), .unset, .unset]) rfl ?_
    exact kZ)
  obtain ⟨k1, hk1⟩ : ∃ z, z = ((p0 &&& (2147483647 : Int32)) % (3 : Int32)) := ⟨_, rfl⟩
  rw [← hk1] at pre1
  obtain ⟨k2, hk2⟩ : ∃ z, z = ((p1 &&& (2147483647 : Int32)) % (3 : Int32)) := ⟨_, rfl⟩
  rw [← hk2] at pre1
  rcases own_3 hk1 with rfl | rfl | rfl
  ·  -- k1 = 0
    rcases own_3 hk2 with rfl | rfl | rfl
    ·  -- k2 = 0
      obtain ⟨b2, T2, h2, k2, vb2, kb2, X2, e2, E2, hS2, hk2, hZ, hown, fe2, fc2, fv2, fr2, -, -, -, -, -, st2⟩ := ldcSVd X0 hx hZ hown (ow hw 1 rfl) hwS e0 hS0 hk0 (Fr.nil _) (fun b cl q => by rw [hU]; exact q) (by rw [hU]; exact IB.start) (by simp) hch hcw (vs := []) (z := (0 : Int32)) ⟨by simp, rfl⟩ (by decide) rfl (g := (mkF m 18 #[.val (.int p0), .val (.int p1), .val (.int 0), .val (.int 0), .unset, .unset] [])) rfl (hb hby at_18) (n := 0) (by decide) (by decide) (by decide) (by decide)
      have Z3 : n0 ≤ h2.size := Nat.le_trans Z0 E2.1
      obtain ⟨T4, h4, X4, e4, E4, A4, D4, -, st4⟩ := newO X2 hx hZ hown (ow hw 9 rfl) (ow hw 10 rfl) (ow hw 11 rfl) e2 (g := (mkF m 101 #[.val (.int p0), .val (.int p1), .val (.int 0), .val (.int 0), .val (.ref b2), .unset] [])) rfl (hb hby at_101) (by decide) (by decide)
      obtain ⟨b4, g4⟩ : ∃ z, z = h2.size := ⟨_, rfl⟩
      rw [← g4] at A4 D4 st4
      have ne5 : b2 ≠ b4 := Nat.ne_of_lt (Nat.lt_of_lt_of_le fe2.lt (Nat.le_of_eq g4.symm))
      have ne6 : vb2 ≠ b4 := Nat.ne_of_lt (Nat.lt_of_lt_of_le fr2.lt (Nat.le_of_eq g4.symm))
      have gn_b4 : n0 ≤ b4 := Nat.le_trans Z3 (Nat.le_of_eq g4.symm)
      have hk7 := Nat.le_trans hk2 E4.1
      have Z8 : n0 ≤ h4.size := Nat.le_trans Z3 E4.1
      have F_keys_b4 : Fld Z h4 b4 oJ "keys" "[Ljava/lang/String;" .null := D4 (Or.inl (ow hw 21 rfl)) (ty := (.array (.object oS))) (by decide)
      have F_indexes_b4 : Fld Z h4 b4 oJ "indexes" "[I" .null := D4 (Or.inl (ow hw 24 rfl)) (ty := (.array .int)) (by decide)
      have F_depth_b4 : Fld Z h4 b4 oJ "depth" "I" (.int 0) := D4 (Or.inl (ow hw 35 rfl)) (ty := .int) (by decide)
      obtain ⟨_, _, ⟨T9, L9, k9, n9⟩, -, X9, ⟨Lc9, hQ9, l9, y9, z9⟩, st9⟩ := X4.specialBack hx (y := oM0) rfl hown (mvT hZ (ow hw 12 rfl)) (mvT hZ (ow hw 13 rfl)) (mvT hZ (ow hw 14 rfl)) (by decide) (backOf (W := 1) (rm1 l Z a0 hw [] b4 .null .null h4 n0 Z8 A4 F_keys_b4 F_indexes_b4 F_depth_b4 gn_b4) hZ (ow hw 14 rfl) (ow hw 11 rfl) (by decide) (by decide)) (g := (mkF m 105 #[.val (.int p0), .val (.int p1), .val (.int 0), .val (.int 0), .val (.ref b2), .unset] [(.ref b4), (.ref b4)])) rfl (by rw [hml]; rfl) (Steps.refl _) (a := b4) (argsL := []) (rest := [(.ref b4)]) (lenOf pd21 rfl) rfl (Nat.le_of_eq rfl) (hb hby at_105) (fun _ _ => ⟨rfl, e4, (by decide : 3 + 2 ≤ _), (by decide : 7 + 32 ≤ _)⟩)
      dsimp only [Pt.U, Pt.locs, Pt.cells, Pt.slots] at X9 l9 y9 z9 st9 hQ9
      subst l9 y9 z9
      obtain ⟨ka_10, ia_11, kk_12, ki_13, rfl, N9q, K9, u9_0, u9_1, u9_2, u9_3, u9_4, f9_0, f9_1, f9_2, f9_3, f9_4, f9_5⟩ := hQ9
      have N9 := Fr.app N0 N9q
      have hk14 := Nat.le_trans hk7 K9.1
      have Z15 : n0 ≤ T9.heap.size := Nat.le_trans Z8 K9.1
      have ne16 : b2 ≠ ka_10 := Nat.ne_of_lt (Nat.lt_of_lt_of_le (fe2.ext E4).lt u9_1)
      have ne17 : vb2 ≠ ka_10 := Nat.ne_of_lt (Nat.lt_of_lt_of_le (fr2.ext E4).lt u9_1)
      have ne18 : b4 ≠ ka_10 := Nat.ne_of_lt (Nat.lt_of_lt_of_le A4.lt u9_1)
      have ne19 : b2 ≠ ia_11 := Nat.ne_of_lt (Nat.lt_of_lt_of_le (fe2.ext E4).lt u9_3)
      have ne20 : vb2 ≠ ia_11 := Nat.ne_of_lt (Nat.lt_of_lt_of_le (fr2.ext E4).lt u9_3)
      have ne21 : b4 ≠ ia_11 := Nat.ne_of_lt (Nat.lt_of_lt_of_le A4.lt u9_3)
      obtain ⟨cq22, kq22, q22a, q22b, q22c⟩ := isOf hZ rfl f9_0
      obtain ⟨_, _, ⟨T22, L22, k22, n22⟩, -, X22, ⟨Lc22, hQ22, l22, y22, z22⟩, st22⟩ := X9.virtualBack hx (y := oM2) (z := oM2) hown (mvT hZ (ow hw 25 rfl)) (mvT hZ (ow hw 26 rfl)) (notFace_of_selects (args := #[]) (mvT hZ (ow hw 28 rfl))) (mvT hZ (ow hw 28 rfl)) (mvT hZ (ow hw 27 rfl)) (by decide) (backOf (W := 0) (rm3d0 l Z a0 hw [] b4 ka_10 ia_11 kk_12 ki_13 (0 : Int32) (0 : Int32) T9.heap n0 Z15 f9_0 f9_1 f9_2 f9_3 f9_4 f9_5 gn_b4 u9_0 u9_2 ne18 ne21 u9_4) hZ (ow hw 29 rfl) (ow hw 11 rfl) (by decide) (by decide)) q22a q22c (g := (mkF m 112 #[.val (.int p0), .val (.int p1), .val (.int 0), .val (.int 0), .val (.ref b2), .val (.ref b4)] [(.ref b4)])) rfl (by rw [hml]; rfl) (Steps.refl _) (argsL := []) (rest := []) (lenOf pd21 rfl) rfl (Nat.le_of_eq rfl) (hb hby at_112) (fun _ _ => ⟨rfl, rfl, (by decide : 5 + 0 ≤ _), (by decide : 39 + 0 ≤ _)⟩)
      dsimp only [Pt.U, Pt.locs, Pt.cells, Pt.slots] at X22 l22 y22 z22 st22 hQ22
      subst l22 y22 z22
      obtain ⟨rfl, N22q, K22, f22_0, f22_1, f22_2, f22_3, f22_4, f22_5⟩ := hQ22
      have N22 := Fr.app N9 N22q
      have hk23 := Nat.le_trans hk14 K22.1
      have Z24 : n0 ≤ T22.heap.size := Nat.le_trans Z15 K22.1
      obtain ⟨cq25, kq25, q25a, q25b, q25c⟩ := isOf hZ rfl f22_0
      obtain ⟨_, _, ⟨T25, L25, k25, n25⟩, -, X25, ⟨Lc25, hQ25, l25, y25, z25⟩, st25⟩ := X22.virtualBack hx (y := oM2) (z := oM2) hown (mvT hZ (ow hw 25 rfl)) (mvT hZ (ow hw 26 rfl)) (notFace_of_selects (args := #[]) (mvT hZ (ow hw 28 rfl))) (mvT hZ (ow hw 28 rfl)) (mvT hZ (ow hw 27 rfl)) (by decide) (backOf (W := 0) (rm3d1 l Z a0 hw [] b4 ka_10 ia_11 kk_12 ki_13 (-1 : Int32) (0 : Int32) T22.heap n0 Z24 f22_0 f22_1 f22_2 f22_3 f22_4 f22_5 gn_b4 u9_0 u9_2 ne18 ne21 u9_4) hZ (ow hw 29 rfl) (ow hw 11 rfl) (by decide) (by decide)) q25a q25c (g := (mkF m 137 #[.val (.int p0), .val (.int p1), .val (.int 0), .val (.int 0), .val (.ref b2), .val (.ref b4)] [(.ref b4)])) rfl (by rw [hml]; rfl) (Steps.refl _) (argsL := []) (rest := []) (lenOf pd21 rfl) rfl (Nat.le_of_eq rfl) (hb hby at_137) (fun _ _ => ⟨rfl, rfl, (by decide : 5 + 0 ≤ _), (by decide : 39 + 0 ≤ _)⟩)
      dsimp only [Pt.U, Pt.locs, Pt.cells, Pt.slots] at X25 l25 y25 z25 st25 hQ25
      subst l25 y25 z25
      obtain ⟨rfl, N25q, K25, f25_0, f25_1, f25_2, f25_3, f25_4, f25_5⟩ := hQ25
      have N25 := Fr.app N22 N25q
      have hk26 := Nat.le_trans hk23 K25.1
      have Z27 : n0 ≤ T25.heap.size := Nat.le_trans Z24 K25.1
      have fa28 := (((((Ox.ext E2).ext E4).keep K9 (allS (P := fun x => n0 ≤ x) gn_b4 all0)).keep K22 (allS (P := fun x => n0 ≤ x) gn_b4 (allS (P := fun x => n0 ≤ x) u9_0 (allS (P := fun x => n0 ≤ x) u9_2 all0)))).keep K25 (allS (P := fun x => n0 ≤ x) gn_b4 (allS (P := fun x => n0 ≤ x) u9_0 (allS (P := fun x => n0 ≤ x) u9_2 all0))))
      obtain ⟨cq29, kq29, q29a, q29b, q29c⟩ := isOf hZ rfl f25_0
      obtain ⟨_, _, ⟨T29, L29, k29, n29⟩, -, X29, ⟨Lc29, hQ29, l29, y29, z29⟩, st29⟩ := X25.virtualBack hx (y := oM28) (z := oM28) hown (mvT hZ (ow hw 36 rfl)) (mvT hZ (ow hw 37 rfl)) (notFace_of_selects (args := #[]) (mvT hZ (ow hw 39 rfl))) (mvT hZ (ow hw 39 rfl)) (mvT hZ (ow hw 38 rfl)) (by decide) (backOf (W := 0) (rm5_0 l Z a0 hw [] b4 ka_10 ia_11 kk_12 ki_13 (-1 : Int32) cs da cd T25.heap n0 Z27 f25_0 f25_1 f25_2 f25_3 f25_4 f25_5 Cs (by first | assumption | decide | omega) fa28 Dd Da (by first | assumption | decide | omega)) hZ (ow hw 40 rfl) (ow hw 11 rfl) (by decide) (by decide)) q29a q29c (g := (mkF m 162 #[.val (.int p0), .val (.int p1), .val (.int 0), .val (.int 0), .val (.ref b2), .val (.ref b4)] [(.ref b4)])) rfl (by rw [hml]; rfl) (Steps.refl _) (argsL := []) (rest := []) (lenOf pd22 rfl) rfl (Nat.le_of_eq rfl) (hb hby at_162) (fun _ _ => ⟨rfl, rfl, (by decide : 5 + 4 ≤ _), (by decide : 39 + 24 ≤ _)⟩)
      dsimp only [Pt.U, Pt.locs, Pt.cells, Pt.slots] at X29 l29 y29 z29 st29 hQ29
      subst l29 y29 z29
      obtain ⟨sa_30, vb_31, kb_32, rfl, N29q, K29, u29_0, u29_1, u29_2, u29_3, f29_0, f29_1, f29_2, f29_3⟩ := hQ29
      have N29 := Fr.app N25 N29q
      have hk33 := Nat.le_trans hk26 K29.1
      have Z34 : n0 ≤ T29.heap.size := Nat.le_trans Z27 K29.1
      have ne35 : b2 ≠ sa_30 := Nat.ne_of_lt (Nat.lt_of_lt_of_le ((((fe2.ext E4).keep K9).keep K22).keep K25).lt u29_1)
      have ne36 : vb2 ≠ sa_30 := Nat.ne_of_lt (Nat.lt_of_lt_of_le ((((fr2.ext E4).keep K9 (ninS ne6 nin0)).keep K22 (ninS ne6 (ninS ne17 (ninS ne20 nin0)))).keep K25 (ninS ne6 (ninS ne17 (ninS ne20 nin0)))).lt u29_1)
      have ne37 : b4 ≠ sa_30 := Nat.ne_of_lt (Nat.lt_of_lt_of_le f25_0.lt u29_1)
      have ne38 : ka_10 ≠ sa_30 := Nat.ne_of_lt (Nat.lt_of_lt_of_le f25_4.lt u29_1)
      have ne39 : ia_11 ≠ sa_30 := Nat.ne_of_lt (Nat.lt_of_lt_of_le f25_5.lt u29_1)
      have ne40 : b2 ≠ vb_31 := Nat.ne_of_lt (Nat.lt_of_lt_of_le ((((fe2.ext E4).keep K9).keep K22).keep K25).lt u29_3)
      have ne41 : vb2 ≠ vb_31 := Nat.ne_of_lt (Nat.lt_of_lt_of_le ((((fr2.ext E4).keep K9 (ninS ne6 nin0)).keep K22 (ninS ne6 (ninS ne17 (ninS ne20 nin0)))).keep K25 (ninS ne6 (ninS ne17 (ninS ne20 nin0)))).lt u29_3)
      have ne42 : b4 ≠ vb_31 := Nat.ne_of_lt (Nat.lt_of_lt_of_le f25_0.lt u29_3)
      have ne43 : ka_10 ≠ vb_31 := Nat.ne_of_lt (Nat.lt_of_lt_of_le f25_4.lt u29_3)
      have ne44 : ia_11 ≠ vb_31 := Nat.ne_of_lt (Nat.lt_of_lt_of_le f25_5.lt u29_3)
      have fa45 := (((((fe2.ext E4).keep K9).keep K22).keep K25).keep K29)
      have fa46 := (((((fc2.ext E4).keep K9 (ninS ne5 nin0)).keep K22 (ninS ne5 (ninS ne16 (ninS ne19 nin0)))).keep K25 (ninS ne5 (ninS ne16 (ninS ne19 nin0)))).keep K29 nin0)
      have fa47 := (((((fv2.ext E4).keep K9 (ninS ne5 nin0)).keep K22 (ninS ne5 (ninS ne16 (ninS ne19 nin0)))).keep K25 (ninS ne5 (ninS ne16 (ninS ne19 nin0)))).keep K29 nin0)
      have fa48 := (((((fr2.ext E4).keep K9 (ninS ne6 nin0)).keep K22 (ninS ne6 (ninS ne17 (ninS ne20 nin0)))).keep K25 (ninS ne6 (ninS ne17 (ninS ne20 nin0)))).keep K29 nin0)
      have fa49 := (fa28.keep K29 all0)
      obtain ⟨cq50, kq50, q50a, q50b, q50c⟩ := isOf hZ rfl f29_0
      obtain ⟨_, _, ⟨T50, L50, k50, n50⟩, -, X50, ⟨Lc50, hQ50, l50, y50, z50⟩, st50⟩ := X29.virtualBack hx (y := oM30) (z := oM30) hown (mvT hZ (ow hw 114 rfl)) (mvT hZ (ow hw 115 rfl)) (notFace_of_selects (args := #[]) (mvT hZ (ow hw 117 rfl))) (mvT hZ (ow hw 117 rfl)) (mvT hZ (ow hw 116 rfl)) (by decide) (backOf (W := 0) (rm19n0 l Z a0 hw [] sa_30 b2 vb_31 kb_32 vb2 kb2 cs T29.heap n0 Z34 f29_0 f29_1 f29_2 f29_3 fa45 fa46 fa47 fa48 (Ne.symm ne35) Cs (by first | assumption | decide | omega) fa49) hZ (ow hw 118 rfl) (ow hw 2 rfl) (by decide) (by decide)) q50a q50c (g := (mkF m 167 #[.val (.int p0), .val (.int p1), .val (.int 0), .val (.int 0), .val (.ref b2), .val (.ref b4)] [(.ref b2), (.ref sa_30)])) rfl (by rw [hml]; rfl) (Steps.refl _) (argsL := [(.ref b2)]) (rest := []) (lenOf pd32 rfl) rfl (Nat.le_of_eq rfl) (hb hby at_167) (fun _ _ => ⟨rfl, rfl, (by decide : 9 + 0 ≤ _), (by decide : 63 + 0 ≤ _)⟩)
      dsimp only [Pt.U, Pt.locs, Pt.cells, Pt.slots] at X50 l50 y50 z50 st50 hQ50
      subst l50 y50 z50
      obtain ⟨rfl, N50q, e50⟩ := hQ50
      have N50 := Fr.app N29 N50q
      have fa51 := (f25_0.keep K29)
      have fa52 := (f25_2.keep K29 nin0)
      have fa53 := (f25_3.keep K29 nin0)
      have fa54 := (f25_5.keep K29 nin0)
      obtain ⟨cq55, kq55, q55a, q55b, q55c⟩ := isOf hZ e50 fa51
      obtain ⟨_, _, ⟨T55, L55, k55, n55⟩, -, X55, ⟨Lc55, hQ55, l55, y55, z55⟩, st55⟩ := X50.virtualBack hx (y := oM6) (z := oM6) hown (mvT hZ (ow hw 125 rfl)) (mvT hZ (ow hw 126 rfl)) (notFace_of_selects (args := #[]) (mvT hZ (ow hw 128 rfl))) (mvT hZ (ow hw 128 rfl)) (mvT hZ (ow hw 127 rfl)) (by decide) (backOf (W := 0) (rm21m l Z a0 hw [] b4 ia_11 ki_13 (-1 : Int32) (-1 : Int32) T29.heap n0 Z34 fa51 fa52 fa53 fa54 (by first | assumption | decide | omega) (by first | assumption | decide | omega)) hZ (ow hw 129 rfl) (ow hw 11 rfl) (by decide) (by decide)) q55a q55c (g := (mkF m 175 #[.val (.int p0), .val (.int p1), .val (.int 0), .val (.int 0), .val (.ref b2), .val (.ref b4)] [(.ref b4)])) rfl (by rw [hml]; rfl) (Steps.refl _) (argsL := []) (rest := []) (lenOf pd2 rfl) rfl (Nat.le_of_eq rfl) (hb hby at_175) (fun _ _ => ⟨rfl, e50, (by decide : 9 + 0 ≤ _), (by decide : 63 + 0 ≤ _)⟩)
      dsimp only [Pt.U, Pt.locs, Pt.cells, Pt.slots] at X55 l55 y55 z55 st55 hQ55
      subst l55 y55 z55
      obtain ⟨rfl, N55q, e55⟩ := hQ55
      have N55 := Fr.app N50 N55q
      obtain ⟨cq56, kq56, q56a, q56b, q56c⟩ := isOf hZ e55 fa51
      obtain ⟨_, _, ⟨T56, L56, k56, n56⟩, -, X56, ⟨Lc56, hQ56, l56, y56, z56⟩, st56⟩ := X55.virtualBack hx (y := oM4) (z := oM4) hown (mvT hZ (ow hw 135 rfl)) (mvT hZ (ow hw 136 rfl)) (notFace_of_selects (args := #[]) (mvT hZ (ow hw 138 rfl))) (mvT hZ (ow hw 138 rfl)) (mvT hZ (ow hw 137 rfl)) (by decide) (backOf (W := 0) (rm23 l Z a0 hw [] b4 T29.heap n0 Z34 fa53) hZ (ow hw 139 rfl) (ow hw 11 rfl) (by decide) (by decide)) q56a q56c (g := (mkF m 192 #[.val (.int p0), .val (.int p1), .val (.int 0), .val (.int 0), .val (.ref b2), .val (.ref b4)] [(.ref b4)])) rfl (by rw [hml]; rfl) (Steps.refl _) (argsL := []) (rest := []) (lenOf pd12 rfl) rfl (Nat.le_of_eq rfl) (hb hby at_192) (fun _ _ => ⟨rfl, e55, (by decide : 9 + 0 ≤ _), (by decide : 63 + 0 ≤ _)⟩)
      dsimp only [Pt.U, Pt.locs, Pt.cells, Pt.slots] at X56 l56 y56 z56 st56 hQ56
      subst l56 y56 z56
      obtain ⟨rfl, N56q, e56⟩ := hQ56
      have N56 := Fr.app N55 N56q
      obtain ⟨fsZ, hrZ, hrun, hended, hRE⟩ := X56.leaveW hS2 (by rw [e56]; exact hk33) (v := some (.int 1)) (fun h => by rw [Bd.returns] at h; cases h)
      refine ⟨_, _, pre1 _ ?_, hrun, hended, _, _, rfl, ?_, hRE.1, hRE.2.1, hRE.2.2.1, hRE.2.2.2.mono (by decide) (by decide)⟩
      · show Steps _ _ _ (s₁.setTop (mkF m 14 #[.val (.int p0), .val (.int p1), .val (.int 0), .val (.int 0), .unset, .unset] [])) _
        refine XS.iloadN X0.here hx rfl (hb hby at_14) rfl  ?_
        refine XS.ifNo X0.here hx rfl (hb hby at_15) rfl ((if0 _ _).trans (teq (by decide)).2) ?_
        show Steps _ _ _ (s₁.setTop (mkF m 18 #[.val (.int p0), .val (.int p1), .val (.int 0), .val (.int 0), .unset, .unset] [])) _
        refine st2 _ ?_
        refine XS.astore X2.here hx rfl (hb hby at_20) rfl rfl (l' := #[.val (.int p0), .val (.int p1), .val (.int 0), .val (.int 0), .val (.ref b2), .unset]) rfl ?_
        refine XS.goto X2.here hx rfl (pc0 := 22) (pc' := 101) rfl (hb hby at_22) (by decide) (by decide) ?_
        show Steps _ _ _ (T2.setTop (mkF m 101 #[.val (.int p0), .val (.int p1), .val (.int 0), .val (.int 0), .val (.ref b2), .unset] [])) _
        refine st4 _ ?_
        refine XS.dup X4.here hx rfl (hb hby at_104) rfl rfl ?_
        show Steps _ _ _ (T4.setTop (mkF m 105 #[.val (.int p0), .val (.int p1), .val (.int 0), .val (.int 0), .val (.ref b2), .unset] [(.ref b4), (.ref b4)])) _
        refine st9.trans ?_
        refine XS.astore X9.here hx rfl (hb hby at_108) rfl rfl (l' := #[.val (.int p0), .val (.int p1), .val (.int 0), .val (.int 0), .val (.ref b2), .val (.ref b4)]) rfl ?_
        refine XS.aload X9.here hx rfl (hb hby at_110) rfl rfl ?_
        show Steps _ _ _ (T9.setTop (mkF m 112 #[.val (.int p0), .val (.int p1), .val (.int 0), .val (.int 0), .val (.ref b2), .val (.ref b4)] [(.ref b4)])) _
        refine st22.trans ?_
        refine XS.iloadN X22.here hx rfl (hb hby at_115) rfl  ?_
        refine XS.iconst X22.here hx rfl (hb hby at_116) ?_
        refine XS.icmpYes X22.here hx rfl (pc0 := 117) (pc' := 125) rfl (hb hby at_117) rfl (tlt (by decide)).1 (by decide) (by decide) ?_
        refine XS.iloadN X22.here hx rfl (hb hby at_125) rfl  ?_
        refine XS.iconst X22.here hx rfl (hb hby at_126) ?_
        refine XS.icmpYes X22.here hx rfl (pc0 := 127) (pc' := 135) rfl (hb hby at_127) rfl (tlt (by decide)).1 (by decide) (by decide) ?_
        refine XS.aload X22.here hx rfl (hb hby at_135) rfl rfl ?_
        show Steps _ _ _ (T22.setTop (mkF m 137 #[.val (.int p0), .val (.int p1), .val (.int 0), .val (.int 0), .val (.ref b2), .val (.ref b4)] [(.ref b4)])) _
        refine st25.trans ?_
        refine XS.iloadN X25.here hx rfl (hb hby at_140) rfl  ?_
        refine XS.iconst X25.here hx rfl (hb hby at_141) ?_
        refine XS.icmpYes X25.here hx rfl (pc0 := 142) (pc' := 150) rfl (hb hby at_142) rfl (tlt (by decide)).1 (by decide) (by decide) ?_
        refine XS.iloadN X25.here hx rfl (hb hby at_150) rfl  ?_
        refine XS.iconst X25.here hx rfl (hb hby at_151) ?_
        refine XS.icmpYes X25.here hx rfl (pc0 := 152) (pc' := 160) rfl (hb hby at_152) rfl (tlt (by decide)).1 (by decide) (by decide) ?_
        refine XS.aload X25.here hx rfl (hb hby at_160) rfl rfl ?_
        show Steps _ _ _ (T25.setTop (mkF m 162 #[.val (.int p0), .val (.int p1), .val (.int 0), .val (.int 0), .val (.ref b2), .val (.ref b4)] [(.ref b4)])) _
        refine st29.trans ?_
        refine XS.aload X29.here hx rfl (hb hby at_165) rfl rfl ?_
        show Steps _ _ _ (T29.setTop (mkF m 167 #[.val (.int p0), .val (.int p1), .val (.int 0), .val (.int 0), .val (.ref b2), .val (.ref b4)] [(.ref b2), (.ref sa_30)])) _
        refine st50.trans ?_
        refine XS.ifNo X50.here hx rfl (hb hby at_170) rfl ((if0 _ _).trans (feq (by decide)).1) ?_
        refine XS.aload X50.here hx rfl (hb hby at_173) rfl rfl ?_
        show Steps _ _ _ (T50.setTop (mkF m 175 #[.val (.int p0), .val (.int p1), .val (.int 0), .val (.int 0), .val (.ref b2), .val (.ref b4)] [(.ref b4)])) _
        refine st55.trans ?_
        refine XS.iloadN X55.here hx rfl (hb hby at_178) rfl  ?_
        refine XS.ifNo X55.here hx rfl (hb hby at_179) rfl ((if0 _ _).trans (teq (by decide)).2) ?_
        refine XS.iconst X55.here hx rfl (hb hby at_182) ?_
        refine XS.goto X55.here hx rfl (pc0 := 183) (pc' := 187) rfl (hb hby at_183) (by decide) (by decide) ?_
        refine XS.icmpNo X55.here hx rfl (hb hby at_187) rfl (teq (by decide)).2 ?_
        refine XS.aload X55.here hx rfl (hb hby at_190) rfl rfl ?_
        show Steps _ _ _ (T55.setTop (mkF m 192 #[.val (.int p0), .val (.int p1), .val (.int 0), .val (.int 0), .val (.ref b2), .val (.ref b4)] [(.ref b4)])) _
        refine st56.trans ?_
        refine XS.iconst X56.here hx rfl (hb hby at_195) ?_
        refine XS.icmpNo X56.here hx rfl (hb hby at_196) rfl (teq (by decide)).2 ?_
        refine XS.iconst X56.here hx rfl (hb hby at_199) ?_
        refine XS.goto X56.here hx rfl (pc0 := 200) (pc' := 204) rfl (hb hby at_200) (by decide) (by decide) ?_
        show Steps _ _ _ (T56.setTop (mkF m 204 #[.val (.int p0), .val (.int p1), .val (.int 0), .val (.int 0), .val (.ref b2), .val (.ref b4)] [(.int 1)])) _
        exact retN X56 hx (t := .boolean) Bd.returns (by simp) (hb hby at_204) hrZ
      · show Q0 Z p0 p1 cs da cd h0 n0 _ T56.heap _
        rw [e56]
        exact ⟨rfl, N56⟩
    ·  -- k2 = 1
      obtain ⟨b57, T57, h57, k57, vb57, kb57, X57, e57, E57, hS57, hk57, hZ, hown, fe57, fc57, fv57, fr57, -, -, -, -, -, st57⟩ := ldcSVd X0 hx hZ hown (ow hw 1 rfl) hwS e0 hS0 hk0 (Fr.nil _) (fun b cl q => by rw [hU]; exact q) (by rw [hU]; exact IB.start) (by simp) hch hcw (vs := []) (z := (0 : Int32)) ⟨by simp, rfl⟩ (by decide) rfl (g := (mkF m 18 #[.val (.int p0), .val (.int p1), .val (.int 0), .val (.int 1), .unset, .unset] [])) rfl (hb hby at_18) (n := 0) (by decide) (by decide) (by decide) (by decide)
      have Z58 : n0 ≤ h57.size := Nat.le_trans Z0 E57.1
      obtain ⟨T59, h59, X59, e59, E59, A59, D59, -, st59⟩ := newO X57 hx hZ hown (ow hw 9 rfl) (ow hw 10 rfl) (ow hw 11 rfl) e57 (g := (mkF m 101 #[.val (.int p0), .val (.int p1), .val (.int 0), .val (.int 1), .val (.ref b57), .unset] [])) rfl (hb hby at_101) (by decide) (by decide)
      obtain ⟨b59, g59⟩ : ∃ z, z = h57.size := ⟨_, rfl⟩
      rw [← g59] at A59 D59 st59
      have ne60 : b57 ≠ b59 := Nat.ne_of_lt (Nat.lt_of_lt_of_le fe57.lt (Nat.le_of_eq g59.symm))
      have ne61 : vb57 ≠ b59 := Nat.ne_of_lt (Nat.lt_of_lt_of_le fr57.lt (Nat.le_of_eq g59.symm))
      have gn_b59 : n0 ≤ b59 := Nat.le_trans Z58 (Nat.le_of_eq g59.symm)
      have hk62 := Nat.le_trans hk57 E59.1
      have Z63 : n0 ≤ h59.size := Nat.le_trans Z58 E59.1
      have F_keys_b59 : Fld Z h59 b59 oJ "keys" "[Ljava/lang/String;" .null := D59 (Or.inl (ow hw 21 rfl)) (ty := (.array (.object oS))) (by decide)
      have F_indexes_b59 : Fld Z h59 b59 oJ "indexes" "[I" .null := D59 (Or.inl (ow hw 24 rfl)) (ty := (.array .int)) (by decide)
      have F_depth_b59 : Fld Z h59 b59 oJ "depth" "I" (.int 0) := D59 (Or.inl (ow hw 35 rfl)) (ty := .int) (by decide)
      obtain ⟨_, _, ⟨T64, L64, k64, n64⟩, -, X64, ⟨Lc64, hQ64, l64, y64, z64⟩, st64⟩ := X59.specialBack hx (y := oM0) rfl hown (mvT hZ (ow hw 12 rfl)) (mvT hZ (ow hw 13 rfl)) (mvT hZ (ow hw 14 rfl)) (by decide) (backOf (W := 1) (rm1 l Z a0 hw [] b59 .null .null h59 n0 Z63 A59 F_keys_b59 F_indexes_b59 F_depth_b59 gn_b59) hZ (ow hw 14 rfl) (ow hw 11 rfl) (by decide) (by decide)) (g := (mkF m 105 #[.val (.int p0), .val (.int p1), .val (.int 0), .val (.int 1), .val (.ref b57), .unset] [(.ref b59), (.ref b59)])) rfl (by rw [hml]; rfl) (Steps.refl _) (a := b59) (argsL := []) (rest := [(.ref b59)]) (lenOf pd21 rfl) rfl (Nat.le_of_eq rfl) (hb hby at_105) (fun _ _ => ⟨rfl, e59, (by decide : 3 + 2 ≤ _), (by decide : 7 + 32 ≤ _)⟩)
      dsimp only [Pt.U, Pt.locs, Pt.cells, Pt.slots] at X64 l64 y64 z64 st64 hQ64
      subst l64 y64 z64
      obtain ⟨ka_65, ia_66, kk_67, ki_68, rfl, N64q, K64, u64_0, u64_1, u64_2, u64_3, u64_4, f64_0, f64_1, f64_2, f64_3, f64_4, f64_5⟩ := hQ64
      have N64 := Fr.app N0 N64q
      have hk69 := Nat.le_trans hk62 K64.1
      have Z70 : n0 ≤ T64.heap.size := Nat.le_trans Z63 K64.1
      have ne71 : b57 ≠ ka_65 := Nat.ne_of_lt (Nat.lt_of_lt_of_le (fe57.ext E59).lt u64_1)
      have ne72 : vb57 ≠ ka_65 := Nat.ne_of_lt (Nat.lt_of_lt_of_le (fr57.ext E59).lt u64_1)
      have ne73 : b59 ≠ ka_65 := Nat.ne_of_lt (Nat.lt_of_lt_of_le A59.lt u64_1)
      have ne74 : b57 ≠ ia_66 := Nat.ne_of_lt (Nat.lt_of_lt_of_le (fe57.ext E59).lt u64_3)
      have ne75 : vb57 ≠ ia_66 := Nat.ne_of_lt (Nat.lt_of_lt_of_le (fr57.ext E59).lt u64_3)
      have ne76 : b59 ≠ ia_66 := Nat.ne_of_lt (Nat.lt_of_lt_of_le A59.lt u64_3)
      obtain ⟨cq77, kq77, q77a, q77b, q77c⟩ := isOf hZ rfl f64_0
      obtain ⟨_, _, ⟨T77, L77, k77, n77⟩, -, X77, ⟨Lc77, hQ77, l77, y77, z77⟩, st77⟩ := X64.virtualBack hx (y := oM2) (z := oM2) hown (mvT hZ (ow hw 25 rfl)) (mvT hZ (ow hw 26 rfl)) (notFace_of_selects (args := #[]) (mvT hZ (ow hw 28 rfl))) (mvT hZ (ow hw 28 rfl)) (mvT hZ (ow hw 27 rfl)) (by decide) (backOf (W := 0) (rm3d0 l Z a0 hw [] b59 ka_65 ia_66 kk_67 ki_68 (0 : Int32) (0 : Int32) T64.heap n0 Z70 f64_0 f64_1 f64_2 f64_3 f64_4 f64_5 gn_b59 u64_0 u64_2 ne73 ne76 u64_4) hZ (ow hw 29 rfl) (ow hw 11 rfl) (by decide) (by decide)) q77a q77c (g := (mkF m 112 #[.val (.int p0), .val (.int p1), .val (.int 0), .val (.int 1), .val (.ref b57), .val (.ref b59)] [(.ref b59)])) rfl (by rw [hml]; rfl) (Steps.refl _) (argsL := []) (rest := []) (lenOf pd21 rfl) rfl (Nat.le_of_eq rfl) (hb hby at_112) (fun _ _ => ⟨rfl, rfl, (by decide : 5 + 0 ≤ _), (by decide : 39 + 0 ≤ _)⟩)
      dsimp only [Pt.U, Pt.locs, Pt.cells, Pt.slots] at X77 l77 y77 z77 st77 hQ77
      subst l77 y77 z77
      obtain ⟨rfl, N77q, K77, f77_0, f77_1, f77_2, f77_3, f77_4, f77_5⟩ := hQ77
      have N77 := Fr.app N64 N77q
      have hk78 := Nat.le_trans hk69 K77.1
      have Z79 : n0 ≤ T77.heap.size := Nat.le_trans Z70 K77.1
      obtain ⟨cq80, kq80, q80a, q80b, q80c⟩ := isOf hZ rfl f77_0
      obtain ⟨_, _, ⟨T80, L80, k80, n80⟩, -, X80, ⟨Lc80, hQ80, l80, y80, z80⟩, st80⟩ := X77.virtualBack hx (y := oM2) (z := oM2) hown (mvT hZ (ow hw 25 rfl)) (mvT hZ (ow hw 26 rfl)) (notFace_of_selects (args := #[]) (mvT hZ (ow hw 28 rfl))) (mvT hZ (ow hw 28 rfl)) (mvT hZ (ow hw 27 rfl)) (by decide) (backOf (W := 0) (rm3d1 l Z a0 hw [] b59 ka_65 ia_66 kk_67 ki_68 (-1 : Int32) (0 : Int32) T77.heap n0 Z79 f77_0 f77_1 f77_2 f77_3 f77_4 f77_5 gn_b59 u64_0 u64_2 ne73 ne76 u64_4) hZ (ow hw 29 rfl) (ow hw 11 rfl) (by decide) (by decide)) q80a q80c (g := (mkF m 137 #[.val (.int p0), .val (.int p1), .val (.int 0), .val (.int 1), .val (.ref b57), .val (.ref b59)] [(.ref b59)])) rfl (by rw [hml]; rfl) (Steps.refl _) (argsL := []) (rest := []) (lenOf pd21 rfl) rfl (Nat.le_of_eq rfl) (hb hby at_137) (fun _ _ => ⟨rfl, rfl, (by decide : 5 + 0 ≤ _), (by decide : 39 + 0 ≤ _)⟩)
      dsimp only [Pt.U, Pt.locs, Pt.cells, Pt.slots] at X80 l80 y80 z80 st80 hQ80
      subst l80 y80 z80
      obtain ⟨rfl, N80q, K80, f80_0, f80_1, f80_2, f80_3, f80_4, f80_5⟩ := hQ80
      have N80 := Fr.app N77 N80q
      have hk81 := Nat.le_trans hk78 K80.1
      have Z82 : n0 ≤ T80.heap.size := Nat.le_trans Z79 K80.1
      obtain ⟨cq83, kq83, q83a, q83b, q83c⟩ := isOf hZ rfl f80_0
      obtain ⟨_, _, ⟨T83, L83, k83, n83⟩, -, X83, ⟨Lc83, hQ83, l83, y83, z83⟩, st83⟩ := X80.virtualBack hx (y := oM3) (z := oM3) hown (mvT hZ (ow hw 158 rfl)) (mvT hZ (ow hw 159 rfl)) (notFace_of_selects (args := #[]) (mvT hZ (ow hw 161 rfl))) (mvT hZ (ow hw 161 rfl)) (mvT hZ (ow hw 160 rfl)) (by decide) (backOf (W := 0) (rm29d2 l Z a0 hw [] b59 ka_65 ia_66 kk_67 ki_68 (-1 : Int32) (-1 : Int32) T80.heap n0 Z82 f80_0 f80_1 f80_2 f80_3 f80_4 f80_5 gn_b59 u64_0 u64_2 ne73 ne76 u64_4) hZ (ow hw 162 rfl) (ow hw 11 rfl) (by decide) (by decide)) q83a q83c (g := (mkF m 147 #[.val (.int p0), .val (.int p1), .val (.int 0), .val (.int 1), .val (.ref b57), .val (.ref b59)] [(.ref b59)])) rfl (by rw [hml]; rfl) (Steps.refl _) (argsL := []) (rest := []) (lenOf pd21 rfl) rfl (Nat.le_of_eq rfl) (hb hby at_147) (fun _ _ => ⟨rfl, rfl, (by decide : 5 + 0 ≤ _), (by decide : 39 + 0 ≤ _)⟩)
      dsimp only [Pt.U, Pt.locs, Pt.cells, Pt.slots] at X83 l83 y83 z83 st83 hQ83
      subst l83 y83 z83
      obtain ⟨rfl, N83q, K83, f83_0⟩ := hQ83
      have N83 := Fr.app N80 N83q
      have hk84 := Nat.le_trans hk81 K83.1
      have Z85 : n0 ≤ T83.heap.size := Nat.le_trans Z82 K83.1
      have ff86 : Arv Z T83.heap ia_66 ki_68 .int (16 : Int32) [(.int (-1)), (.int 0)] (.int 0) := by have q := f83_0; rw [show ((-1 : Int32) + (1 : Int32)) = (0 : Int32) from by decide] at q; exact q
      have fa87 := (f80_0.keep K83)
      have fa88 := (f80_1.keep K83 (ninS ne76 nin0))
      have fa89 := (f80_2.keep K83 (ninS ne76 nin0))
      have fa90 := (f80_3.keep K83 (ninS ne76 nin0))
      have fa91 := (f80_4.keep K83 (ninS u64_4 nin0))
      have fa92 := ((((((Ox.ext E57).ext E59).keep K64 (allS (P := fun x => n0 ≤ x) gn_b59 all0)).keep K77 (allS (P := fun x => n0 ≤ x) gn_b59 (allS (P := fun x => n0 ≤ x) u64_0 (allS (P := fun x => n0 ≤ x) u64_2 all0)))).keep K80 (allS (P := fun x => n0 ≤ x) gn_b59 (allS (P := fun x => n0 ≤ x) u64_0 (allS (P := fun x => n0 ≤ x) u64_2 all0)))).keep K83 (allS (P := fun x => n0 ≤ x) u64_2 all0))
      obtain ⟨cq93, kq93, q93a, q93b, q93c⟩ := isOf hZ rfl fa87
      obtain ⟨_, _, ⟨T93, L93, k93, n93⟩, -, X93, ⟨Lc93, hQ93, l93, y93, z93⟩, st93⟩ := X83.virtualBack hx (y := oM28) (z := oM28) hown (mvT hZ (ow hw 36 rfl)) (mvT hZ (ow hw 37 rfl)) (notFace_of_selects (args := #[]) (mvT hZ (ow hw 39 rfl))) (mvT hZ (ow hw 39 rfl)) (mvT hZ (ow hw 38 rfl)) (by decide) (backOf (W := 0) (rm5_0 l Z a0 hw [] b59 ka_65 ia_66 kk_67 ki_68 (0 : Int32) cs da cd T83.heap n0 Z85 fa87 fa88 fa89 fa90 fa91 ff86 Cs (by first | assumption | decide | omega) fa92 Dd Da (by first | assumption | decide | omega)) hZ (ow hw 40 rfl) (ow hw 11 rfl) (by decide) (by decide)) q93a q93c (g := (mkF m 162 #[.val (.int p0), .val (.int p1), .val (.int 0), .val (.int 1), .val (.ref b57), .val (.ref b59)] [(.ref b59)])) rfl (by rw [hml]; rfl) (Steps.refl _) (argsL := []) (rest := []) (lenOf pd22 rfl) rfl (Nat.le_of_eq rfl) (hb hby at_162) (fun _ _ => ⟨rfl, rfl, (by decide : 5 + 4 ≤ _), (by decide : 39 + 24 ≤ _)⟩)
      dsimp only [Pt.U, Pt.locs, Pt.cells, Pt.slots] at X93 l93 y93 z93 st93 hQ93
      subst l93 y93 z93
      obtain ⟨sa_94, vb_95, kb_96, rfl, N93q, K93, u93_0, u93_1, u93_2, u93_3, f93_0, f93_1, f93_2, f93_3⟩ := hQ93
      have N93 := Fr.app N83 N93q
      have hk97 := Nat.le_trans hk84 K93.1
      have Z98 : n0 ≤ T93.heap.size := Nat.le_trans Z85 K93.1
      have ne99 : b57 ≠ sa_94 := Nat.ne_of_lt (Nat.lt_of_lt_of_le (((((fe57.ext E59).keep K64).keep K77).keep K80).keep K83).lt u93_1)
      have ne100 : vb57 ≠ sa_94 := Nat.ne_of_lt (Nat.lt_of_lt_of_le (((((fr57.ext E59).keep K64 (ninS ne61 nin0)).keep K77 (ninS ne61 (ninS ne72 (ninS ne75 nin0)))).keep K80 (ninS ne61 (ninS ne72 (ninS ne75 nin0)))).keep K83 (ninS ne75 nin0)).lt u93_1)
      have ne101 : b59 ≠ sa_94 := Nat.ne_of_lt (Nat.lt_of_lt_of_le fa87.lt u93_1)
      have ne102 : ka_65 ≠ sa_94 := Nat.ne_of_lt (Nat.lt_of_lt_of_le fa91.lt u93_1)
      have ne103 : ia_66 ≠ sa_94 := Nat.ne_of_lt (Nat.lt_of_lt_of_le ff86.lt u93_1)
      have ne104 : b57 ≠ vb_95 := Nat.ne_of_lt (Nat.lt_of_lt_of_le (((((fe57.ext E59).keep K64).keep K77).keep K80).keep K83).lt u93_3)
      have ne105 : vb57 ≠ vb_95 := Nat.ne_of_lt (Nat.lt_of_lt_of_le (((((fr57.ext E59).keep K64 (ninS ne61 nin0)).keep K77 (ninS ne61 (ninS ne72 (ninS ne75 nin0)))).keep K80 (ninS ne61 (ninS ne72 (ninS ne75 nin0)))).keep K83 (ninS ne75 nin0)).lt u93_3)
      have ne106 : b59 ≠ vb_95 := Nat.ne_of_lt (Nat.lt_of_lt_of_le fa87.lt u93_3)
      have ne107 : ka_65 ≠ vb_95 := Nat.ne_of_lt (Nat.lt_of_lt_of_le fa91.lt u93_3)
      have ne108 : ia_66 ≠ vb_95 := Nat.ne_of_lt (Nat.lt_of_lt_of_le ff86.lt u93_3)
      have fa109 := ((((((fe57.ext E59).keep K64).keep K77).keep K80).keep K83).keep K93)
      have fa110 := ((((((fc57.ext E59).keep K64 (ninS ne60 nin0)).keep K77 (ninS ne60 (ninS ne71 (ninS ne74 nin0)))).keep K80 (ninS ne60 (ninS ne71 (ninS ne74 nin0)))).keep K83 (ninS ne74 nin0)).keep K93 nin0)
      have fa111 := ((((((fv57.ext E59).keep K64 (ninS ne60 nin0)).keep K77 (ninS ne60 (ninS ne71 (ninS ne74 nin0)))).keep K80 (ninS ne60 (ninS ne71 (ninS ne74 nin0)))).keep K83 (ninS ne74 nin0)).keep K93 nin0)
      have fa112 := ((((((fr57.ext E59).keep K64 (ninS ne61 nin0)).keep K77 (ninS ne61 (ninS ne72 (ninS ne75 nin0)))).keep K80 (ninS ne61 (ninS ne72 (ninS ne75 nin0)))).keep K83 (ninS ne75 nin0)).keep K93 nin0)
      have fa113 := (fa92.keep K93 all0)
      obtain ⟨cq114, kq114, q114a, q114b, q114c⟩ := isOf hZ rfl f93_0
      obtain ⟨_, _, ⟨T114, L114, k114, n114⟩, -, X114, ⟨Lc114, hQ114, l114, y114, z114⟩, st114⟩ := X93.virtualBack hx (y := oM30) (z := oM30) hown (mvT hZ (ow hw 114 rfl)) (mvT hZ (ow hw 115 rfl)) (notFace_of_selects (args := #[]) (mvT hZ (ow hw 117 rfl))) (mvT hZ (ow hw 117 rfl)) (mvT hZ (ow hw 116 rfl)) (by decide) (backOf (W := 0) (rm19n0 l Z a0 hw [] sa_94 b57 vb_95 kb_96 vb57 kb57 cs T93.heap n0 Z98 f93_0 f93_1 f93_2 f93_3 fa109 fa110 fa111 fa112 (Ne.symm ne99) Cs (by first | assumption | decide | omega) fa113) hZ (ow hw 118 rfl) (ow hw 2 rfl) (by decide) (by decide)) q114a q114c (g := (mkF m 167 #[.val (.int p0), .val (.int p1), .val (.int 0), .val (.int 1), .val (.ref b57), .val (.ref b59)] [(.ref b57), (.ref sa_94)])) rfl (by rw [hml]; rfl) (Steps.refl _) (argsL := [(.ref b57)]) (rest := []) (lenOf pd32 rfl) rfl (Nat.le_of_eq rfl) (hb hby at_167) (fun _ _ => ⟨rfl, rfl, (by decide : 9 + 0 ≤ _), (by decide : 63 + 0 ≤ _)⟩)
      dsimp only [Pt.U, Pt.locs, Pt.cells, Pt.slots] at X114 l114 y114 z114 st114 hQ114
      subst l114 y114 z114
      obtain ⟨rfl, N114q, e114⟩ := hQ114
      have N114 := Fr.app N93 N114q
      have fa115 := (fa87.keep K93)
      have fa116 := (fa89.keep K93 nin0)
      have fa117 := (fa90.keep K93 nin0)
      have fa118 := (ff86.keep K93 nin0)
      obtain ⟨cq119, kq119, q119a, q119b, q119c⟩ := isOf hZ e114 fa115
      obtain ⟨_, _, ⟨T119, L119, k119, n119⟩, -, X119, ⟨Lc119, hQ119, l119, y119, z119⟩, st119⟩ := X114.virtualBack hx (y := oM6) (z := oM6) hown (mvT hZ (ow hw 125 rfl)) (mvT hZ (ow hw 126 rfl)) (notFace_of_selects (args := #[]) (mvT hZ (ow hw 128 rfl))) (mvT hZ (ow hw 128 rfl)) (mvT hZ (ow hw 127 rfl)) (by decide) (backOf (W := 0) (rm21 l Z a0 hw [] b59 ia_66 ki_68 (-1 : Int32) (0 : Int32) T93.heap n0 Z98 fa115 fa116 fa117 fa118 (by first | assumption | decide | omega) (by first | assumption | decide | omega)) hZ (ow hw 129 rfl) (ow hw 11 rfl) (by decide) (by decide)) q119a q119c (g := (mkF m 175 #[.val (.int p0), .val (.int p1), .val (.int 0), .val (.int 1), .val (.ref b57), .val (.ref b59)] [(.ref b59)])) rfl (by rw [hml]; rfl) (Steps.refl _) (argsL := []) (rest := []) (lenOf pd2 rfl) rfl (Nat.le_of_eq rfl) (hb hby at_175) (fun _ _ => ⟨rfl, e114, (by decide : 9 + 0 ≤ _), (by decide : 63 + 0 ≤ _)⟩)
      dsimp only [Pt.U, Pt.locs, Pt.cells, Pt.slots] at X119 l119 y119 z119 st119 hQ119
      subst l119 y119 z119
      obtain ⟨rfl, N119q, e119⟩ := hQ119
      have N119 := Fr.app N114 N119q
      obtain ⟨cq120, kq120, q120a, q120b, q120c⟩ := isOf hZ e119 fa115
      obtain ⟨_, _, ⟨T120, L120, k120, n120⟩, -, X120, ⟨Lc120, hQ120, l120, y120, z120⟩, st120⟩ := X119.virtualBack hx (y := oM4) (z := oM4) hown (mvT hZ (ow hw 135 rfl)) (mvT hZ (ow hw 136 rfl)) (notFace_of_selects (args := #[]) (mvT hZ (ow hw 138 rfl))) (mvT hZ (ow hw 138 rfl)) (mvT hZ (ow hw 137 rfl)) (by decide) (backOf (W := 0) (rm23 l Z a0 hw [] b59 T93.heap n0 Z98 fa117) hZ (ow hw 139 rfl) (ow hw 11 rfl) (by decide) (by decide)) q120a q120c (g := (mkF m 192 #[.val (.int p0), .val (.int p1), .val (.int 0), .val (.int 1), .val (.ref b57), .val (.ref b59)] [(.ref b59)])) rfl (by rw [hml]; rfl) (Steps.refl _) (argsL := []) (rest := []) (lenOf pd12 rfl) rfl (Nat.le_of_eq rfl) (hb hby at_192) (fun _ _ => ⟨rfl, e119, (by decide : 9 + 0 ≤ _), (by decide : 63 + 0 ≤ _)⟩)
      dsimp only [Pt.U, Pt.locs, Pt.cells, Pt.slots] at X120 l120 y120 z120 st120 hQ120
      subst l120 y120 z120
      obtain ⟨rfl, N120q, e120⟩ := hQ120
      have N120 := Fr.app N119 N120q
      obtain ⟨fsZ, hrZ, hrun, hended, hRE⟩ := X120.leaveW hS57 (by rw [e120]; exact hk97) (v := some (.int 1)) (fun h => by rw [Bd.returns] at h; cases h)
      refine ⟨_, _, pre1 _ ?_, hrun, hended, _, _, rfl, ?_, hRE.1, hRE.2.1, hRE.2.2.1, hRE.2.2.2.mono (by decide) (by decide)⟩
      · show Steps _ _ _ (s₁.setTop (mkF m 14 #[.val (.int p0), .val (.int p1), .val (.int 0), .val (.int 1), .unset, .unset] [])) _
        refine XS.iloadN X0.here hx rfl (hb hby at_14) rfl  ?_
        refine XS.ifNo X0.here hx rfl (hb hby at_15) rfl ((if0 _ _).trans (teq (by decide)).2) ?_
        show Steps _ _ _ (s₁.setTop (mkF m 18 #[.val (.int p0), .val (.int p1), .val (.int 0), .val (.int 1), .unset, .unset] [])) _
        refine st57 _ ?_
        refine XS.astore X57.here hx rfl (hb hby at_20) rfl rfl (l' := #[.val (.int p0), .val (.int p1), .val (.int 0), .val (.int 1), .val (.ref b57), .unset]) rfl ?_
        refine XS.goto X57.here hx rfl (pc0 := 22) (pc' := 101) rfl (hb hby at_22) (by decide) (by decide) ?_
        show Steps _ _ _ (T57.setTop (mkF m 101 #[.val (.int p0), .val (.int p1), .val (.int 0), .val (.int 1), .val (.ref b57), .unset] [])) _
        refine st59 _ ?_
        refine XS.dup X59.here hx rfl (hb hby at_104) rfl rfl ?_
        show Steps _ _ _ (T59.setTop (mkF m 105 #[.val (.int p0), .val (.int p1), .val (.int 0), .val (.int 1), .val (.ref b57), .unset] [(.ref b59), (.ref b59)])) _
        refine st64.trans ?_
        refine XS.astore X64.here hx rfl (hb hby at_108) rfl rfl (l' := #[.val (.int p0), .val (.int p1), .val (.int 0), .val (.int 1), .val (.ref b57), .val (.ref b59)]) rfl ?_
        refine XS.aload X64.here hx rfl (hb hby at_110) rfl rfl ?_
        show Steps _ _ _ (T64.setTop (mkF m 112 #[.val (.int p0), .val (.int p1), .val (.int 0), .val (.int 1), .val (.ref b57), .val (.ref b59)] [(.ref b59)])) _
        refine st77.trans ?_
        refine XS.iloadN X77.here hx rfl (hb hby at_115) rfl  ?_
        refine XS.iconst X77.here hx rfl (hb hby at_116) ?_
        refine XS.icmpYes X77.here hx rfl (pc0 := 117) (pc' := 125) rfl (hb hby at_117) rfl (tlt (by decide)).1 (by decide) (by decide) ?_
        refine XS.iloadN X77.here hx rfl (hb hby at_125) rfl  ?_
        refine XS.iconst X77.here hx rfl (hb hby at_126) ?_
        refine XS.icmpYes X77.here hx rfl (pc0 := 127) (pc' := 135) rfl (hb hby at_127) rfl (tlt (by decide)).1 (by decide) (by decide) ?_
        refine XS.aload X77.here hx rfl (hb hby at_135) rfl rfl ?_
        show Steps _ _ _ (T77.setTop (mkF m 137 #[.val (.int p0), .val (.int p1), .val (.int 0), .val (.int 1), .val (.ref b57), .val (.ref b59)] [(.ref b59)])) _
        refine st80.trans ?_
        refine XS.iloadN X80.here hx rfl (hb hby at_140) rfl  ?_
        refine XS.iconst X80.here hx rfl (hb hby at_141) ?_
        refine XS.icmpNo X80.here hx rfl (hb hby at_142) rfl (flt (by decide)).1 ?_
        refine XS.aload X80.here hx rfl (hb hby at_145) rfl rfl ?_
        show Steps _ _ _ (T80.setTop (mkF m 147 #[.val (.int p0), .val (.int p1), .val (.int 0), .val (.int 1), .val (.ref b57), .val (.ref b59)] [(.ref b59)])) _
        refine st83.trans ?_
        refine XS.iloadN X83.here hx rfl (hb hby at_150) rfl  ?_
        refine XS.iconst X83.here hx rfl (hb hby at_151) ?_
        refine XS.icmpYes X83.here hx rfl (pc0 := 152) (pc' := 160) rfl (hb hby at_152) rfl (tlt (by decide)).1 (by decide) (by decide) ?_
        refine XS.aload X83.here hx rfl (hb hby at_160) rfl rfl ?_
        show Steps _ _ _ (T83.setTop (mkF m 162 #[.val (.int p0), .val (.int p1), .val (.int 0), .val (.int 1), .val (.ref b57), .val (.ref b59)] [(.ref b59)])) _
        refine st93.trans ?_
        refine XS.aload X93.here hx rfl (hb hby at_165) rfl rfl ?_
        show Steps _ _ _ (T93.setTop (mkF m 167 #[.val (.int p0), .val (.int p1), .val (.int 0), .val (.int 1), .val (.ref b57), .val (.ref b59)] [(.ref b57), (.ref sa_94)])) _
        refine st114.trans ?_
        refine XS.ifNo X114.here hx rfl (hb hby at_170) rfl ((if0 _ _).trans (feq (by decide)).1) ?_
        refine XS.aload X114.here hx rfl (hb hby at_173) rfl rfl ?_
        show Steps _ _ _ (T114.setTop (mkF m 175 #[.val (.int p0), .val (.int p1), .val (.int 0), .val (.int 1), .val (.ref b57), .val (.ref b59)] [(.ref b59)])) _
        refine st119.trans ?_
        refine XS.iloadN X119.here hx rfl (hb hby at_178) rfl  ?_
        refine XS.ifYes X119.here hx rfl (pc0 := 179) (pc' := 186) rfl (hb hby at_179) rfl ((if0 _ _).trans (feq (by decide)).2) (by decide) (by decide) ?_
        refine XS.iconst X119.here hx rfl (hb hby at_186) ?_
        refine XS.icmpNo X119.here hx rfl (hb hby at_187) rfl (teq (by decide)).2 ?_
        refine XS.aload X119.here hx rfl (hb hby at_190) rfl rfl ?_
        show Steps _ _ _ (T119.setTop (mkF m 192 #[.val (.int p0), .val (.int p1), .val (.int 0), .val (.int 1), .val (.ref b57), .val (.ref b59)] [(.ref b59)])) _
        refine st120.trans ?_
        refine XS.iconst X120.here hx rfl (hb hby at_195) ?_
        refine XS.icmpNo X120.here hx rfl (hb hby at_196) rfl (teq (by decide)).2 ?_
        refine XS.iconst X120.here hx rfl (hb hby at_199) ?_
        refine XS.goto X120.here hx rfl (pc0 := 200) (pc' := 204) rfl (hb hby at_200) (by decide) (by decide) ?_
        show Steps _ _ _ (T120.setTop (mkF m 204 #[.val (.int p0), .val (.int p1), .val (.int 0), .val (.int 1), .val (.ref b57), .val (.ref b59)] [(.int 1)])) _
        exact retN X120 hx (t := .boolean) Bd.returns (by simp) (hb hby at_204) hrZ
      · show Q0 Z p0 p1 cs da cd h0 n0 _ T120.heap _
        rw [e120]
        exact ⟨rfl, N120⟩
    ·  -- k2 = 2
      obtain ⟨b121, T121, h121, k121, vb121, kb121, X121, e121, E121, hS121, hk121, hZ, hown, fe121, fc121, fv121, fr121, -, -, -, -, -, st121⟩ := ldcSVd X0 hx hZ hown (ow hw 1 rfl) hwS e0 hS0 hk0 (Fr.nil _) (fun b cl q => by rw [hU]; exact q) (by rw [hU]; exact IB.start) (by simp) hch hcw (vs := []) (z := (0 : Int32)) ⟨by simp, rfl⟩ (by decide) rfl (g := (mkF m 18 #[.val (.int p0), .val (.int p1), .val (.int 0), .val (.int 2), .unset, .unset] [])) rfl (hb hby at_18) (n := 0) (by decide) (by decide) (by decide) (by decide)
      have Z122 : n0 ≤ h121.size := Nat.le_trans Z0 E121.1
      obtain ⟨T123, h123, X123, e123, E123, A123, D123, -, st123⟩ := newO X121 hx hZ hown (ow hw 9 rfl) (ow hw 10 rfl) (ow hw 11 rfl) e121 (g := (mkF m 101 #[.val (.int p0), .val (.int p1), .val (.int 0), .val (.int 2), .val (.ref b121), .unset] [])) rfl (hb hby at_101) (by decide) (by decide)
      obtain ⟨b123, g123⟩ : ∃ z, z = h121.size := ⟨_, rfl⟩
      rw [← g123] at A123 D123 st123
      have ne124 : b121 ≠ b123 := Nat.ne_of_lt (Nat.lt_of_lt_of_le fe121.lt (Nat.le_of_eq g123.symm))
      have ne125 : vb121 ≠ b123 := Nat.ne_of_lt (Nat.lt_of_lt_of_le fr121.lt (Nat.le_of_eq g123.symm))
      have gn_b123 : n0 ≤ b123 := Nat.le_trans Z122 (Nat.le_of_eq g123.symm)
      have hk126 := Nat.le_trans hk121 E123.1
      have Z127 : n0 ≤ h123.size := Nat.le_trans Z122 E123.1
      have F_keys_b123 : Fld Z h123 b123 oJ "keys" "[Ljava/lang/String;" .null := D123 (Or.inl (ow hw 21 rfl)) (ty := (.array (.object oS))) (by decide)
      have F_indexes_b123 : Fld Z h123 b123 oJ "indexes" "[I" .null := D123 (Or.inl (ow hw 24 rfl)) (ty := (.array .int)) (by decide)
      have F_depth_b123 : Fld Z h123 b123 oJ "depth" "I" (.int 0) := D123 (Or.inl (ow hw 35 rfl)) (ty := .int) (by decide)
      obtain ⟨_, _, ⟨T128, L128, k128, n128⟩, -, X128, ⟨Lc128, hQ128, l128, y128, z128⟩, st128⟩ := X123.specialBack hx (y := oM0) rfl hown (mvT hZ (ow hw 12 rfl)) (mvT hZ (ow hw 13 rfl)) (mvT hZ (ow hw 14 rfl)) (by decide) (backOf (W := 1) (rm1 l Z a0 hw [] b123 .null .null h123 n0 Z127 A123 F_keys_b123 F_indexes_b123 F_depth_b123 gn_b123) hZ (ow hw 14 rfl) (ow hw 11 rfl) (by decide) (by decide)) (g := (mkF m 105 #[.val (.int p0), .val (.int p1), .val (.int 0), .val (.int 2), .val (.ref b121), .unset] [(.ref b123), (.ref b123)])) rfl (by rw [hml]; rfl) (Steps.refl _) (a := b123) (argsL := []) (rest := [(.ref b123)]) (lenOf pd21 rfl) rfl (Nat.le_of_eq rfl) (hb hby at_105) (fun _ _ => ⟨rfl, e123, (by decide : 3 + 2 ≤ _), (by decide : 7 + 32 ≤ _)⟩)
      dsimp only [Pt.U, Pt.locs, Pt.cells, Pt.slots] at X128 l128 y128 z128 st128 hQ128
      subst l128 y128 z128
      obtain ⟨ka_129, ia_130, kk_131, ki_132, rfl, N128q, K128, u128_0, u128_1, u128_2, u128_3, u128_4, f128_0, f128_1, f128_2, f128_3, f128_4, f128_5⟩ := hQ128
      have N128 := Fr.app N0 N128q
      have hk133 := Nat.le_trans hk126 K128.1
      have Z134 : n0 ≤ T128.heap.size := Nat.le_trans Z127 K128.1
      have ne135 : b121 ≠ ka_129 := Nat.ne_of_lt (Nat.lt_of_lt_of_le (fe121.ext E123).lt u128_1)
      have ne136 : vb121 ≠ ka_129 := Nat.ne_of_lt (Nat.lt_of_lt_of_le (fr121.ext E123).lt u128_1)
      have ne137 : b123 ≠ ka_129 := Nat.ne_of_lt (Nat.lt_of_lt_of_le A123.lt u128_1)
      have ne138 : b121 ≠ ia_130 := Nat.ne_of_lt (Nat.lt_of_lt_of_le (fe121.ext E123).lt u128_3)
      have ne139 : vb121 ≠ ia_130 := Nat.ne_of_lt (Nat.lt_of_lt_of_le (fr121.ext E123).lt u128_3)
      have ne140 : b123 ≠ ia_130 := Nat.ne_of_lt (Nat.lt_of_lt_of_le A123.lt u128_3)
      obtain ⟨cq141, kq141, q141a, q141b, q141c⟩ := isOf hZ rfl f128_0
      obtain ⟨_, _, ⟨T141, L141, k141, n141⟩, -, X141, ⟨Lc141, hQ141, l141, y141, z141⟩, st141⟩ := X128.virtualBack hx (y := oM2) (z := oM2) hown (mvT hZ (ow hw 25 rfl)) (mvT hZ (ow hw 26 rfl)) (notFace_of_selects (args := #[]) (mvT hZ (ow hw 28 rfl))) (mvT hZ (ow hw 28 rfl)) (mvT hZ (ow hw 27 rfl)) (by decide) (backOf (W := 0) (rm3d0 l Z a0 hw [] b123 ka_129 ia_130 kk_131 ki_132 (0 : Int32) (0 : Int32) T128.heap n0 Z134 f128_0 f128_1 f128_2 f128_3 f128_4 f128_5 gn_b123 u128_0 u128_2 ne137 ne140 u128_4) hZ (ow hw 29 rfl) (ow hw 11 rfl) (by decide) (by decide)) q141a q141c (g := (mkF m 112 #[.val (.int p0), .val (.int p1), .val (.int 0), .val (.int 2), .val (.ref b121), .val (.ref b123)] [(.ref b123)])) rfl (by rw [hml]; rfl) (Steps.refl _) (argsL := []) (rest := []) (lenOf pd21 rfl) rfl (Nat.le_of_eq rfl) (hb hby at_112) (fun _ _ => ⟨rfl, rfl, (by decide : 5 + 0 ≤ _), (by decide : 39 + 0 ≤ _)⟩)
      dsimp only [Pt.U, Pt.locs, Pt.cells, Pt.slots] at X141 l141 y141 z141 st141 hQ141
      subst l141 y141 z141
      obtain ⟨rfl, N141q, K141, f141_0, f141_1, f141_2, f141_3, f141_4, f141_5⟩ := hQ141
      have N141 := Fr.app N128 N141q
      have hk142 := Nat.le_trans hk133 K141.1
      have Z143 : n0 ≤ T141.heap.size := Nat.le_trans Z134 K141.1
      obtain ⟨cq144, kq144, q144a, q144b, q144c⟩ := isOf hZ rfl f141_0
      obtain ⟨_, _, ⟨T144, L144, k144, n144⟩, -, X144, ⟨Lc144, hQ144, l144, y144, z144⟩, st144⟩ := X141.virtualBack hx (y := oM2) (z := oM2) hown (mvT hZ (ow hw 25 rfl)) (mvT hZ (ow hw 26 rfl)) (notFace_of_selects (args := #[]) (mvT hZ (ow hw 28 rfl))) (mvT hZ (ow hw 28 rfl)) (mvT hZ (ow hw 27 rfl)) (by decide) (backOf (W := 0) (rm3d1 l Z a0 hw [] b123 ka_129 ia_130 kk_131 ki_132 (-1 : Int32) (0 : Int32) T141.heap n0 Z143 f141_0 f141_1 f141_2 f141_3 f141_4 f141_5 gn_b123 u128_0 u128_2 ne137 ne140 u128_4) hZ (ow hw 29 rfl) (ow hw 11 rfl) (by decide) (by decide)) q144a q144c (g := (mkF m 137 #[.val (.int p0), .val (.int p1), .val (.int 0), .val (.int 2), .val (.ref b121), .val (.ref b123)] [(.ref b123)])) rfl (by rw [hml]; rfl) (Steps.refl _) (argsL := []) (rest := []) (lenOf pd21 rfl) rfl (Nat.le_of_eq rfl) (hb hby at_137) (fun _ _ => ⟨rfl, rfl, (by decide : 5 + 0 ≤ _), (by decide : 39 + 0 ≤ _)⟩)
      dsimp only [Pt.U, Pt.locs, Pt.cells, Pt.slots] at X144 l144 y144 z144 st144 hQ144
      subst l144 y144 z144
      obtain ⟨rfl, N144q, K144, f144_0, f144_1, f144_2, f144_3, f144_4, f144_5⟩ := hQ144
      have N144 := Fr.app N141 N144q
      have hk145 := Nat.le_trans hk142 K144.1
      have Z146 : n0 ≤ T144.heap.size := Nat.le_trans Z143 K144.1
      obtain ⟨cq147, kq147, q147a, q147b, q147c⟩ := isOf hZ rfl f144_0
      obtain ⟨_, _, ⟨T147, L147, k147, n147⟩, -, X147, ⟨Lc147, hQ147, l147, y147, z147⟩, st147⟩ := X144.virtualBack hx (y := oM3) (z := oM3) hown (mvT hZ (ow hw 158 rfl)) (mvT hZ (ow hw 159 rfl)) (notFace_of_selects (args := #[]) (mvT hZ (ow hw 161 rfl))) (mvT hZ (ow hw 161 rfl)) (mvT hZ (ow hw 160 rfl)) (by decide) (backOf (W := 0) (rm29d2 l Z a0 hw [] b123 ka_129 ia_130 kk_131 ki_132 (-1 : Int32) (-1 : Int32) T144.heap n0 Z146 f144_0 f144_1 f144_2 f144_3 f144_4 f144_5 gn_b123 u128_0 u128_2 ne137 ne140 u128_4) hZ (ow hw 162 rfl) (ow hw 11 rfl) (by decide) (by decide)) q147a q147c (g := (mkF m 147 #[.val (.int p0), .val (.int p1), .val (.int 0), .val (.int 2), .val (.ref b121), .val (.ref b123)] [(.ref b123)])) rfl (by rw [hml]; rfl) (Steps.refl _) (argsL := []) (rest := []) (lenOf pd21 rfl) rfl (Nat.le_of_eq rfl) (hb hby at_147) (fun _ _ => ⟨rfl, rfl, (by decide : 5 + 0 ≤ _), (by decide : 39 + 0 ≤ _)⟩)
      dsimp only [Pt.U, Pt.locs, Pt.cells, Pt.slots] at X147 l147 y147 z147 st147 hQ147
      subst l147 y147 z147
      obtain ⟨rfl, N147q, K147, f147_0⟩ := hQ147
      have N147 := Fr.app N144 N147q
      have hk148 := Nat.le_trans hk145 K147.1
      have Z149 : n0 ≤ T147.heap.size := Nat.le_trans Z146 K147.1
      have ff150 : Arv Z T147.heap ia_130 ki_132 .int (16 : Int32) [(.int (-1)), (.int 0)] (.int 0) := by have q := f147_0; rw [show ((-1 : Int32) + (1 : Int32)) = (0 : Int32) from by decide] at q; exact q
      have fa151 := (f144_0.keep K147)
      have fa152 := (f144_1.keep K147 (ninS ne140 nin0))
      have fa153 := (f144_2.keep K147 (ninS ne140 nin0))
      have fa154 := (f144_3.keep K147 (ninS ne140 nin0))
      have fa155 := (f144_4.keep K147 (ninS u128_4 nin0))
      obtain ⟨cq156, kq156, q156a, q156b, q156c⟩ := isOf hZ rfl fa151
      obtain ⟨_, _, ⟨T156, L156, k156, n156⟩, -, X156, ⟨Lc156, hQ156, l156, y156, z156⟩, st156⟩ := X147.virtualBack hx (y := oM3) (z := oM3) hown (mvT hZ (ow hw 158 rfl)) (mvT hZ (ow hw 159 rfl)) (notFace_of_selects (args := #[]) (mvT hZ (ow hw 161 rfl))) (mvT hZ (ow hw 161 rfl)) (mvT hZ (ow hw 160 rfl)) (by decide) (backOf (W := 0) (rm29d2 l Z a0 hw [] b123 ka_129 ia_130 kk_131 ki_132 (-1 : Int32) (0 : Int32) T147.heap n0 Z149 fa151 fa152 fa153 fa154 fa155 ff150 gn_b123 u128_0 u128_2 ne137 ne140 u128_4) hZ (ow hw 162 rfl) (ow hw 11 rfl) (by decide) (by decide)) q156a q156c (g := (mkF m 157 #[.val (.int p0), .val (.int p1), .val (.int 0), .val (.int 2), .val (.ref b121), .val (.ref b123)] [(.ref b123)])) rfl (by rw [hml]; rfl) (Steps.refl _) (argsL := []) (rest := []) (lenOf pd21 rfl) rfl (Nat.le_of_eq rfl) (hb hby at_157) (fun _ _ => ⟨rfl, rfl, (by decide : 5 + 0 ≤ _), (by decide : 39 + 0 ≤ _)⟩)
      dsimp only [Pt.U, Pt.locs, Pt.cells, Pt.slots] at X156 l156 y156 z156 st156 hQ156
      subst l156 y156 z156
      obtain ⟨rfl, N156q, K156, f156_0⟩ := hQ156
      have N156 := Fr.app N147 N156q
      have hk157 := Nat.le_trans hk148 K156.1
      have Z158 : n0 ≤ T156.heap.size := Nat.le_trans Z149 K156.1
      have ff159 : Arv Z T156.heap ia_130 ki_132 .int (16 : Int32) [(.int (-1)), (.int 1)] (.int 0) := by have q := f156_0; rw [show ((0 : Int32) + (1 : Int32)) = (1 : Int32) from by decide] at q; exact q
      have fa160 := (fa151.keep K156)
      have fa161 := (fa152.keep K156 (ninS ne140 nin0))
      have fa162 := (fa153.keep K156 (ninS ne140 nin0))
      have fa163 := (fa154.keep K156 (ninS ne140 nin0))
      have fa164 := (fa155.keep K156 (ninS u128_4 nin0))
      have fa165 := (((((((Ox.ext E121).ext E123).keep K128 (allS (P := fun x => n0 ≤ x) gn_b123 all0)).keep K141 (allS (P := fun x => n0 ≤ x) gn_b123 (allS (P := fun x => n0 ≤ x) u128_0 (allS (P := fun x => n0 ≤ x) u128_2 all0)))).keep K144 (allS (P := fun x => n0 ≤ x) gn_b123 (allS (P := fun x => n0 ≤ x) u128_0 (allS (P := fun x => n0 ≤ x) u128_2 all0)))).keep K147 (allS (P := fun x => n0 ≤ x) u128_2 all0)).keep K156 (allS (P := fun x => n0 ≤ x) u128_2 all0))
      obtain ⟨cq166, kq166, q166a, q166b, q166c⟩ := isOf hZ rfl fa160
      obtain ⟨_, _, ⟨T166, L166, k166, n166⟩, -, X166, ⟨Lc166, hQ166, l166, y166, z166⟩, st166⟩ := X156.virtualBack hx (y := oM28) (z := oM28) hown (mvT hZ (ow hw 36 rfl)) (mvT hZ (ow hw 37 rfl)) (notFace_of_selects (args := #[]) (mvT hZ (ow hw 39 rfl))) (mvT hZ (ow hw 39 rfl)) (mvT hZ (ow hw 38 rfl)) (by decide) (backOf (W := 0) (rm5_0 l Z a0 hw [] b123 ka_129 ia_130 kk_131 ki_132 (1 : Int32) cs da cd T156.heap n0 Z158 fa160 fa161 fa162 fa163 fa164 ff159 Cs (by first | assumption | decide | omega) fa165 Dd Da (by first | assumption | decide | omega)) hZ (ow hw 40 rfl) (ow hw 11 rfl) (by decide) (by decide)) q166a q166c (g := (mkF m 162 #[.val (.int p0), .val (.int p1), .val (.int 0), .val (.int 2), .val (.ref b121), .val (.ref b123)] [(.ref b123)])) rfl (by rw [hml]; rfl) (Steps.refl _) (argsL := []) (rest := []) (lenOf pd22 rfl) rfl (Nat.le_of_eq rfl) (hb hby at_162) (fun _ _ => ⟨rfl, rfl, (by decide : 5 + 4 ≤ _), (by decide : 39 + 24 ≤ _)⟩)
      dsimp only [Pt.U, Pt.locs, Pt.cells, Pt.slots] at X166 l166 y166 z166 st166 hQ166
      subst l166 y166 z166
      obtain ⟨sa_167, vb_168, kb_169, rfl, N166q, K166, u166_0, u166_1, u166_2, u166_3, f166_0, f166_1, f166_2, f166_3⟩ := hQ166
      have N166 := Fr.app N156 N166q
      have hk170 := Nat.le_trans hk157 K166.1
      have Z171 : n0 ≤ T166.heap.size := Nat.le_trans Z158 K166.1
      have ne172 : b121 ≠ sa_167 := Nat.ne_of_lt (Nat.lt_of_lt_of_le ((((((fe121.ext E123).keep K128).keep K141).keep K144).keep K147).keep K156).lt u166_1)
      have ne173 : vb121 ≠ sa_167 := Nat.ne_of_lt (Nat.lt_of_lt_of_le ((((((fr121.ext E123).keep K128 (ninS ne125 nin0)).keep K141 (ninS ne125 (ninS ne136 (ninS ne139 nin0)))).keep K144 (ninS ne125 (ninS ne136 (ninS ne139 nin0)))).keep K147 (ninS ne139 nin0)).keep K156 (ninS ne139 nin0)).lt u166_1)
      have ne174 : b123 ≠ sa_167 := Nat.ne_of_lt (Nat.lt_of_lt_of_le fa160.lt u166_1)
      have ne175 : ka_129 ≠ sa_167 := Nat.ne_of_lt (Nat.lt_of_lt_of_le fa164.lt u166_1)
      have ne176 : ia_130 ≠ sa_167 := Nat.ne_of_lt (Nat.lt_of_lt_of_le ff159.lt u166_1)
      have ne177 : b121 ≠ vb_168 := Nat.ne_of_lt (Nat.lt_of_lt_of_le ((((((fe121.ext E123).keep K128).keep K141).keep K144).keep K147).keep K156).lt u166_3)
      have ne178 : vb121 ≠ vb_168 := Nat.ne_of_lt (Nat.lt_of_lt_of_le ((((((fr121.ext E123).keep K128 (ninS ne125 nin0)).keep K141 (ninS ne125 (ninS ne136 (ninS ne139 nin0)))).keep K144 (ninS ne125 (ninS ne136 (ninS ne139 nin0)))).keep K147 (ninS ne139 nin0)).keep K156 (ninS ne139 nin0)).lt u166_3)
      have ne179 : b123 ≠ vb_168 := Nat.ne_of_lt (Nat.lt_of_lt_of_le fa160.lt u166_3)
      have ne180 : ka_129 ≠ vb_168 := Nat.ne_of_lt (Nat.lt_of_lt_of_le fa164.lt u166_3)
      have ne181 : ia_130 ≠ vb_168 := Nat.ne_of_lt (Nat.lt_of_lt_of_le ff159.lt u166_3)
      have fa182 := (((((((fe121.ext E123).keep K128).keep K141).keep K144).keep K147).keep K156).keep K166)
      have fa183 := (((((((fc121.ext E123).keep K128 (ninS ne124 nin0)).keep K141 (ninS ne124 (ninS ne135 (ninS ne138 nin0)))).keep K144 (ninS ne124 (ninS ne135 (ninS ne138 nin0)))).keep K147 (ninS ne138 nin0)).keep K156 (ninS ne138 nin0)).keep K166 nin0)
      have fa184 := (((((((fv121.ext E123).keep K128 (ninS ne124 nin0)).keep K141 (ninS ne124 (ninS ne135 (ninS ne138 nin0)))).keep K144 (ninS ne124 (ninS ne135 (ninS ne138 nin0)))).keep K147 (ninS ne138 nin0)).keep K156 (ninS ne138 nin0)).keep K166 nin0)
      have fa185 := (((((((fr121.ext E123).keep K128 (ninS ne125 nin0)).keep K141 (ninS ne125 (ninS ne136 (ninS ne139 nin0)))).keep K144 (ninS ne125 (ninS ne136 (ninS ne139 nin0)))).keep K147 (ninS ne139 nin0)).keep K156 (ninS ne139 nin0)).keep K166 nin0)
      have fa186 := (fa165.keep K166 all0)
      obtain ⟨cq187, kq187, q187a, q187b, q187c⟩ := isOf hZ rfl f166_0
      obtain ⟨_, _, ⟨T187, L187, k187, n187⟩, -, X187, ⟨Lc187, hQ187, l187, y187, z187⟩, st187⟩ := X166.virtualBack hx (y := oM30) (z := oM30) hown (mvT hZ (ow hw 114 rfl)) (mvT hZ (ow hw 115 rfl)) (notFace_of_selects (args := #[]) (mvT hZ (ow hw 117 rfl))) (mvT hZ (ow hw 117 rfl)) (mvT hZ (ow hw 116 rfl)) (by decide) (backOf (W := 0) (rm19n0 l Z a0 hw [] sa_167 b121 vb_168 kb_169 vb121 kb121 cs T166.heap n0 Z171 f166_0 f166_1 f166_2 f166_3 fa182 fa183 fa184 fa185 (Ne.symm ne172) Cs (by first | assumption | decide | omega) fa186) hZ (ow hw 118 rfl) (ow hw 2 rfl) (by decide) (by decide)) q187a q187c (g := (mkF m 167 #[.val (.int p0), .val (.int p1), .val (.int 0), .val (.int 2), .val (.ref b121), .val (.ref b123)] [(.ref b121), (.ref sa_167)])) rfl (by rw [hml]; rfl) (Steps.refl _) (argsL := [(.ref b121)]) (rest := []) (lenOf pd32 rfl) rfl (Nat.le_of_eq rfl) (hb hby at_167) (fun _ _ => ⟨rfl, rfl, (by decide : 9 + 0 ≤ _), (by decide : 63 + 0 ≤ _)⟩)
      dsimp only [Pt.U, Pt.locs, Pt.cells, Pt.slots] at X187 l187 y187 z187 st187 hQ187
      subst l187 y187 z187
      obtain ⟨rfl, N187q, e187⟩ := hQ187
      have N187 := Fr.app N166 N187q
      have fa188 := (fa160.keep K166)
      have fa189 := (fa162.keep K166 nin0)
      have fa190 := (fa163.keep K166 nin0)
      have fa191 := (ff159.keep K166 nin0)
      obtain ⟨cq192, kq192, q192a, q192b, q192c⟩ := isOf hZ e187 fa188
      obtain ⟨_, _, ⟨T192, L192, k192, n192⟩, -, X192, ⟨Lc192, hQ192, l192, y192, z192⟩, st192⟩ := X187.virtualBack hx (y := oM6) (z := oM6) hown (mvT hZ (ow hw 125 rfl)) (mvT hZ (ow hw 126 rfl)) (notFace_of_selects (args := #[]) (mvT hZ (ow hw 128 rfl))) (mvT hZ (ow hw 128 rfl)) (mvT hZ (ow hw 127 rfl)) (by decide) (backOf (W := 0) (rm21 l Z a0 hw [] b123 ia_130 ki_132 (-1 : Int32) (1 : Int32) T166.heap n0 Z171 fa188 fa189 fa190 fa191 (by first | assumption | decide | omega) (by first | assumption | decide | omega)) hZ (ow hw 129 rfl) (ow hw 11 rfl) (by decide) (by decide)) q192a q192c (g := (mkF m 175 #[.val (.int p0), .val (.int p1), .val (.int 0), .val (.int 2), .val (.ref b121), .val (.ref b123)] [(.ref b123)])) rfl (by rw [hml]; rfl) (Steps.refl _) (argsL := []) (rest := []) (lenOf pd2 rfl) rfl (Nat.le_of_eq rfl) (hb hby at_175) (fun _ _ => ⟨rfl, e187, (by decide : 9 + 0 ≤ _), (by decide : 63 + 0 ≤ _)⟩)
      dsimp only [Pt.U, Pt.locs, Pt.cells, Pt.slots] at X192 l192 y192 z192 st192 hQ192
      subst l192 y192 z192
      obtain ⟨rfl, N192q, e192⟩ := hQ192
      have N192 := Fr.app N187 N192q
      obtain ⟨cq193, kq193, q193a, q193b, q193c⟩ := isOf hZ e192 fa188
      obtain ⟨_, _, ⟨T193, L193, k193, n193⟩, -, X193, ⟨Lc193, hQ193, l193, y193, z193⟩, st193⟩ := X192.virtualBack hx (y := oM4) (z := oM4) hown (mvT hZ (ow hw 135 rfl)) (mvT hZ (ow hw 136 rfl)) (notFace_of_selects (args := #[]) (mvT hZ (ow hw 138 rfl))) (mvT hZ (ow hw 138 rfl)) (mvT hZ (ow hw 137 rfl)) (by decide) (backOf (W := 0) (rm23 l Z a0 hw [] b123 T166.heap n0 Z171 fa190) hZ (ow hw 139 rfl) (ow hw 11 rfl) (by decide) (by decide)) q193a q193c (g := (mkF m 192 #[.val (.int p0), .val (.int p1), .val (.int 0), .val (.int 2), .val (.ref b121), .val (.ref b123)] [(.ref b123)])) rfl (by rw [hml]; rfl) (Steps.refl _) (argsL := []) (rest := []) (lenOf pd12 rfl) rfl (Nat.le_of_eq rfl) (hb hby at_192) (fun _ _ => ⟨rfl, e192, (by decide : 9 + 0 ≤ _), (by decide : 63 + 0 ≤ _)⟩)
      dsimp only [Pt.U, Pt.locs, Pt.cells, Pt.slots] at X193 l193 y193 z193 st193 hQ193
      subst l193 y193 z193
      obtain ⟨rfl, N193q, e193⟩ := hQ193
      have N193 := Fr.app N192 N193q
      obtain ⟨fsZ, hrZ, hrun, hended, hRE⟩ := X193.leaveW hS121 (by rw [e193]; exact hk170) (v := some (.int 1)) (fun h => by rw [Bd.returns] at h; cases h)
      refine ⟨_, _, pre1 _ ?_, hrun, hended, _, _, rfl, ?_, hRE.1, hRE.2.1, hRE.2.2.1, hRE.2.2.2.mono (by decide) (by decide)⟩
      · show Steps _ _ _ (s₁.setTop (mkF m 14 #[.val (.int p0), .val (.int p1), .val (.int 0), .val (.int 2), .unset, .unset] [])) _
        refine XS.iloadN X0.here hx rfl (hb hby at_14) rfl  ?_
        refine XS.ifNo X0.here hx rfl (hb hby at_15) rfl ((if0 _ _).trans (teq (by decide)).2) ?_
        show Steps _ _ _ (s₁.setTop (mkF m 18 #[.val (.int p0), .val (.int p1), .val (.int 0), .val (.int 2), .unset, .unset] [])) _
        refine st121 _ ?_
        refine XS.astore X121.here hx rfl (hb hby at_20) rfl rfl (l' := #[.val (.int p0), .val (.int p1), .val (.int 0), .val (.int 2), .val (.ref b121), .unset]) rfl ?_
        refine XS.goto X121.here hx rfl (pc0 := 22) (pc' := 101) rfl (hb hby at_22) (by decide) (by decide) ?_
        show Steps _ _ _ (T121.setTop (mkF m 101 #[.val (.int p0), .val (.int p1), .val (.int 0), .val (.int 2), .val (.ref b121), .unset] [])) _
        refine st123 _ ?_
        refine XS.dup X123.here hx rfl (hb hby at_104) rfl rfl ?_
        show Steps _ _ _ (T123.setTop (mkF m 105 #[.val (.int p0), .val (.int p1), .val (.int 0), .val (.int 2), .val (.ref b121), .unset] [(.ref b123), (.ref b123)])) _
        refine st128.trans ?_
        refine XS.astore X128.here hx rfl (hb hby at_108) rfl rfl (l' := #[.val (.int p0), .val (.int p1), .val (.int 0), .val (.int 2), .val (.ref b121), .val (.ref b123)]) rfl ?_
        refine XS.aload X128.here hx rfl (hb hby at_110) rfl rfl ?_
        show Steps _ _ _ (T128.setTop (mkF m 112 #[.val (.int p0), .val (.int p1), .val (.int 0), .val (.int 2), .val (.ref b121), .val (.ref b123)] [(.ref b123)])) _
        refine st141.trans ?_
        refine XS.iloadN X141.here hx rfl (hb hby at_115) rfl  ?_
        refine XS.iconst X141.here hx rfl (hb hby at_116) ?_
        refine XS.icmpYes X141.here hx rfl (pc0 := 117) (pc' := 125) rfl (hb hby at_117) rfl (tlt (by decide)).1 (by decide) (by decide) ?_
        refine XS.iloadN X141.here hx rfl (hb hby at_125) rfl  ?_
        refine XS.iconst X141.here hx rfl (hb hby at_126) ?_
        refine XS.icmpYes X141.here hx rfl (pc0 := 127) (pc' := 135) rfl (hb hby at_127) rfl (tlt (by decide)).1 (by decide) (by decide) ?_
        refine XS.aload X141.here hx rfl (hb hby at_135) rfl rfl ?_
        show Steps _ _ _ (T141.setTop (mkF m 137 #[.val (.int p0), .val (.int p1), .val (.int 0), .val (.int 2), .val (.ref b121), .val (.ref b123)] [(.ref b123)])) _
        refine st144.trans ?_
        refine XS.iloadN X144.here hx rfl (hb hby at_140) rfl  ?_
        refine XS.iconst X144.here hx rfl (hb hby at_141) ?_
        refine XS.icmpNo X144.here hx rfl (hb hby at_142) rfl (flt (by decide)).1 ?_
        refine XS.aload X144.here hx rfl (hb hby at_145) rfl rfl ?_
        show Steps _ _ _ (T144.setTop (mkF m 147 #[.val (.int p0), .val (.int p1), .val (.int 0), .val (.int 2), .val (.ref b121), .val (.ref b123)] [(.ref b123)])) _
        refine st147.trans ?_
        refine XS.iloadN X147.here hx rfl (hb hby at_150) rfl  ?_
        refine XS.iconst X147.here hx rfl (hb hby at_151) ?_
        refine XS.icmpNo X147.here hx rfl (hb hby at_152) rfl (flt (by decide)).1 ?_
        refine XS.aload X147.here hx rfl (hb hby at_155) rfl rfl ?_
        show Steps _ _ _ (T147.setTop (mkF m 157 #[.val (.int p0), .val (.int p1), .val (.int 0), .val (.int 2), .val (.ref b121), .val (.ref b123)] [(.ref b123)])) _
        refine st156.trans ?_
        refine XS.aload X156.here hx rfl (hb hby at_160) rfl rfl ?_
        show Steps _ _ _ (T156.setTop (mkF m 162 #[.val (.int p0), .val (.int p1), .val (.int 0), .val (.int 2), .val (.ref b121), .val (.ref b123)] [(.ref b123)])) _
        refine st166.trans ?_
        refine XS.aload X166.here hx rfl (hb hby at_165) rfl rfl ?_
        show Steps _ _ _ (T166.setTop (mkF m 167 #[.val (.int p0), .val (.int p1), .val (.int 0), .val (.int 2), .val (.ref b121), .val (.ref b123)] [(.ref b121), (.ref sa_167)])) _
        refine st187.trans ?_
        refine XS.ifNo X187.here hx rfl (hb hby at_170) rfl ((if0 _ _).trans (feq (by decide)).1) ?_
        refine XS.aload X187.here hx rfl (hb hby at_173) rfl rfl ?_
        show Steps _ _ _ (T187.setTop (mkF m 175 #[.val (.int p0), .val (.int p1), .val (.int 0), .val (.int 2), .val (.ref b121), .val (.ref b123)] [(.ref b123)])) _
        refine st192.trans ?_
        refine XS.iloadN X192.here hx rfl (hb hby at_178) rfl  ?_
        refine XS.ifYes X192.here hx rfl (pc0 := 179) (pc' := 186) rfl (hb hby at_179) rfl ((if0 _ _).trans (feq (by decide)).2) (by decide) (by decide) ?_
        refine XS.iconst X192.here hx rfl (hb hby at_186) ?_
        refine XS.icmpNo X192.here hx rfl (hb hby at_187) rfl (teq (by decide)).2 ?_
        refine XS.aload X192.here hx rfl (hb hby at_190) rfl rfl ?_
        show Steps _ _ _ (T192.setTop (mkF m 192 #[.val (.int p0), .val (.int p1), .val (.int 0), .val (.int 2), .val (.ref b121), .val (.ref b123)] [(.ref b123)])) _
        refine st193.trans ?_
        refine XS.iconst X193.here hx rfl (hb hby at_195) ?_
        refine XS.icmpNo X193.here hx rfl (hb hby at_196) rfl (teq (by decide)).2 ?_
        refine XS.iconst X193.here hx rfl (hb hby at_199) ?_
        refine XS.goto X193.here hx rfl (pc0 := 200) (pc' := 204) rfl (hb hby at_200) (by decide) (by decide) ?_
        show Steps _ _ _ (T193.setTop (mkF m 204 #[.val (.int p0), .val (.int p1), .val (.int 0), .val (.int 2), .val (.ref b121), .val (.ref b123)] [(.int 1)])) _
        exact retN X193 hx (t := .boolean) Bd.returns (by simp) (hb hby at_204) hrZ
      · show Q0 Z p0 p1 cs da cd h0 n0 _ T193.heap _
        rw [e193]
        exact ⟨rfl, N193⟩
  ·  -- k1 = 1
    rcases own_3 hk2 with rfl | rfl | rfl
    ·  -- k2 = 0
      obtain ⟨T194, h194, X194, e194, E194, A194, D194, -, st194⟩ := newO X0 hx hZ hown (ow hw 140 rfl) (ow hw 3 rfl) (ow hw 2 rfl) e0 (g := (mkF m 29 #[.val (.int p0), .val (.int p1), .val (.int 1), .val (.int 0), .unset, .unset] [])) rfl (hb hby at_29) (by decide) (by decide)
      obtain ⟨b194, g194⟩ : ∃ z, z = h0.size := ⟨_, rfl⟩
      rw [← g194] at A194 D194 st194
      have gn_b194 : n0 ≤ b194 := Nat.le_trans Z0 (Nat.le_of_eq g194.symm)
      have hk195 := Nat.le_trans hk0 E194.1
      have Z196 : n0 ≤ h194.size := Nat.le_trans Z0 E194.1
      have F_value_b194 : Fld Z h194 b194 oS "value" "[B" .null := D194 (Or.inr (ow hw 5 rfl)) (ty := (.array .byte)) (by decide)
      have F_coder_b194 : Fld Z h194 b194 oS "coder" "B" (.int 0) := D194 (Or.inr (ow hw 6 rfl)) (ty := .byte) (by decide)
      obtain ⟨T197, h197, k197, X197, e197, E197, A197, st197⟩ := newP X194 hx hZ (ow hw 141 rfl) e194 (g := (mkF m 34 #[.val (.int p0), .val (.int p1), .val (.int 1), .val (.int 0), .unset, .unset] [(.int 2), (.ref b194), (.ref b194)])) rfl (hb hby at_34) rfl (by decide) (cap := 2) (by decide) (by decide) (by decide) (by decide)
      obtain ⟨b197, g197⟩ : ∃ z, z = h194.size := ⟨_, rfl⟩
      rw [← g197] at A197 st197
      have ne198 : b194 ≠ b197 := Nat.ne_of_lt (Nat.lt_of_lt_of_le A194.lt (Nat.le_of_eq g197.symm))
      have gn_b197 : n0 ≤ b197 := Nat.le_trans Z196 (Nat.le_of_eq g197.symm)
      have hk199 := Nat.le_trans hk195 E197.1
      have Z200 : n0 ≤ h197.size := Nat.le_trans Z196 E197.1
      have V197 : Arv Z h197 b197 k197 .char (2 : Int32) [(.int 0), (.int 0)] (.int 0) := (Arv.new A197 (by decide)).pad (pad_rep [] (.int 0) 2)
      obtain ⟨c201, Arc201, qc201, Sc201, Mc201, Hc201, Gc201⟩ := id V197
      have hinc201 : ¬ ((0 : Int32) < 0 ∨ c201.slots.size ≤ ((0 : Int32)).toNatClampNeg) := inb_of Sc201 ⟨by decide, by decide⟩
      obtain ⟨T202, h202, X202, e202, W202, st202⟩ := stC X197 hx hZ e197 Arc201 (j := (0 : Int32)) hinc201  (g := (mkF m 40 #[.val (.int p0), .val (.int p1), .val (.int 1), .val (.int 0), .unset, .unset] [(.int 47), (.int 0), (.ref b197), (.ref b197), (.ref b194), (.ref b194)])) rfl rfl (hb hby at_40)
      have V202 : Arv Z h202 b197 k197 .char (2 : Int32) [(.int 47), (.int 0)] (.int 0) := Arv.set Arc201 qc201 Sc201 Mc201 Hc201 Gc201 (fits_nar_char _) W202 0 rfl (Nat.le_of_ble_eq_true rfl)
      have hk203 := Nat.le_trans hk199 (Nat.le_of_eq W202.size.symm)
      have Z204 : n0 ≤ h202.size := Nat.le_trans Z200 (Nat.le_of_eq W202.size.symm)
      have N202 := Fr.snoc X202 N0 gn_b197
      obtain ⟨c205, Arc205, qc205, Sc205, Mc205, Hc205, Gc205⟩ := id V202
      have hinc205 : ¬ ((1 : Int32) < 0 ∨ c205.slots.size ≤ ((1 : Int32)).toNatClampNeg) := inb_of Sc205 ⟨by decide, by decide⟩
      obtain ⟨T206, h206, X206, e206, W206, st206⟩ := stC X202 hx hZ e202 Arc205 (j := (1 : Int32)) hinc205  (g := (mkF m 50 #[.val (.int p0), .val (.int p1), .val (.int 1), .val (.int 0), .unset, .unset] [(.int 48), (.int 1), (.ref b197), (.ref b197), (.ref b194), (.ref b194)])) rfl rfl (hb hby at_50)
      have V206 : Arv Z h206 b197 k197 .char (2 : Int32) [(.int 47), (.int 48)] (.int 0) := Arv.set Arc205 qc205 Sc205 Mc205 Hc205 Gc205 (fits_nar_char _) W206 1 rfl (Nat.le_of_ble_eq_true rfl)
      have hk207 := Nat.le_trans hk203 (Nat.le_of_eq W206.size.symm)
      have Z208 : n0 ≤ h206.size := Nat.le_trans Z204 (Nat.le_of_eq W206.size.symm)
      have N206 := Fr.snoc X206 N202 gn_b197
      have fa209 := (((A194.ext E197).wr W202).wr W206)
      have fa210 := (((F_coder_b194.ext E197).other W202 (Or.inl ne198)).other W206 (Or.inl ne198))
      have fa211 := (((F_value_b194.ext E197).other W202 (Or.inl ne198)).other W206 (Or.inl ne198))
      have fa212 := ((((Ox.ext E194).ext E197).wr W202 gn_b197).wr W206 gn_b197)
      obtain ⟨_, _, ⟨T213, L213, k213, n213⟩, -, X213, ⟨Lc213, hQ213, l213, y213, z213⟩, st213⟩ := X206.specialBack hx (y := oM35) rfl hown (mvT hZ (ow hw 142 rfl)) (mvT hZ (ow hw 143 rfl)) (mvT hZ (ow hw 144 rfl)) (by decide) (backOf (W := 1) (rm24n2 l Z a0 hw [] b194 b197 (.int 0) .null k197 (47 : Int32) (48 : Int32) cs h206 n0 Z208 fa209 fa210 fa211 gn_b194 V206 ne198 (by first | assumption | decide | omega) (by first | assumption | decide | omega) (by first | assumption | decide | omega) (by first | assumption | decide | omega) Cs (by first | assumption | decide | omega) fa212) hZ (ow hw 144 rfl) (ow hw 2 rfl) (by decide) (by decide)) (g := (mkF m 51 #[.val (.int p0), .val (.int p1), .val (.int 1), .val (.int 0), .unset, .unset] [(.ref b197), (.ref b194), (.ref b194)])) rfl (by rw [hml]; rfl) (Steps.refl _) (a := b194) (argsL := [(.ref b197)]) (rest := [(.ref b194)]) (lenOf pd33 rfl) rfl (Nat.le_of_eq rfl) (hb hby at_51) (fun _ _ => ⟨rfl, e206, (by decide : 2 + 1 ≤ _), (by decide : 6 + 2 ≤ _)⟩)
      dsimp only [Pt.U, Pt.locs, Pt.cells, Pt.slots] at X213 l213 y213 z213 st213 hQ213
      subst l213 y213 z213
      obtain ⟨vb_214, kb_215, rfl, N213q, K213, u213_0, u213_1, f213_0, f213_1, f213_2, f213_3⟩ := hQ213
      have N213 := Fr.app N206 N213q
      have hk216 := Nat.le_trans hk207 K213.1
      have Z217 : n0 ≤ T213.heap.size := Nat.le_trans Z208 K213.1
      have ne218 : b194 ≠ vb_214 := Nat.ne_of_lt (Nat.lt_of_lt_of_le fa209.lt u213_1)
      have ne219 : b197 ≠ vb_214 := Nat.ne_of_lt (Nat.lt_of_lt_of_le V206.lt u213_1)
      obtain ⟨T220, h220, X220, e220, E220, A220, D220, -, st220⟩ := newO X213 hx hZ hown (ow hw 9 rfl) (ow hw 10 rfl) (ow hw 11 rfl) rfl (g := (mkF m 101 #[.val (.int p0), .val (.int p1), .val (.int 1), .val (.int 0), .val (.ref b194), .unset] [])) rfl (hb hby at_101) (by decide) (by decide)
      obtain ⟨b220, g220⟩ : ∃ z, z = T213.heap.size := ⟨_, rfl⟩
      rw [← g220] at A220 D220 st220
      have ne221 : b194 ≠ b220 := Nat.ne_of_lt (Nat.lt_of_lt_of_le f213_0.lt (Nat.le_of_eq g220.symm))
      have fa222 := (V206.keep K213 (ninS (Ne.symm ne198) nin0))
      have ne223 : b197 ≠ b220 := Nat.ne_of_lt (Nat.lt_of_lt_of_le fa222.lt (Nat.le_of_eq g220.symm))
      have ne224 : vb_214 ≠ b220 := Nat.ne_of_lt (Nat.lt_of_lt_of_le f213_3.lt (Nat.le_of_eq g220.symm))
      have gn_b220 : n0 ≤ b220 := Nat.le_trans Z217 (Nat.le_of_eq g220.symm)
      have hk225 := Nat.le_trans hk216 E220.1
      have Z226 : n0 ≤ h220.size := Nat.le_trans Z217 E220.1
      have F_keys_b220 : Fld Z h220 b220 oJ "keys" "[Ljava/lang/String;" .null := D220 (Or.inl (ow hw 21 rfl)) (ty := (.array (.object oS))) (by decide)
      have F_indexes_b220 : Fld Z h220 b220 oJ "indexes" "[I" .null := D220 (Or.inl (ow hw 24 rfl)) (ty := (.array .int)) (by decide)
      have F_depth_b220 : Fld Z h220 b220 oJ "depth" "I" (.int 0) := D220 (Or.inl (ow hw 35 rfl)) (ty := .int) (by decide)
      obtain ⟨_, _, ⟨T227, L227, k227, n227⟩, -, X227, ⟨Lc227, hQ227, l227, y227, z227⟩, st227⟩ := X220.specialBack hx (y := oM0) rfl hown (mvT hZ (ow hw 12 rfl)) (mvT hZ (ow hw 13 rfl)) (mvT hZ (ow hw 14 rfl)) (by decide) (backOf (W := 1) (rm1 l Z a0 hw [] b220 .null .null h220 n0 Z226 A220 F_keys_b220 F_indexes_b220 F_depth_b220 gn_b220) hZ (ow hw 14 rfl) (ow hw 11 rfl) (by decide) (by decide)) (g := (mkF m 105 #[.val (.int p0), .val (.int p1), .val (.int 1), .val (.int 0), .val (.ref b194), .unset] [(.ref b220), (.ref b220)])) rfl (by rw [hml]; rfl) (Steps.refl _) (a := b220) (argsL := []) (rest := [(.ref b220)]) (lenOf pd21 rfl) rfl (Nat.le_of_eq rfl) (hb hby at_105) (fun _ _ => ⟨rfl, e220, (by decide : 4 + 2 ≤ _), (by decide : 11 + 32 ≤ _)⟩)
      dsimp only [Pt.U, Pt.locs, Pt.cells, Pt.slots] at X227 l227 y227 z227 st227 hQ227
      subst l227 y227 z227
      obtain ⟨ka_228, ia_229, kk_230, ki_231, rfl, N227q, K227, u227_0, u227_1, u227_2, u227_3, u227_4, f227_0, f227_1, f227_2, f227_3, f227_4, f227_5⟩ := hQ227
      have N227 := Fr.app N213 N227q
      have hk232 := Nat.le_trans hk225 K227.1
      have Z233 : n0 ≤ T227.heap.size := Nat.le_trans Z226 K227.1
      have ne234 : b194 ≠ ka_228 := Nat.ne_of_lt (Nat.lt_of_lt_of_le (f213_0.ext E220).lt u227_1)
      have ne235 : b197 ≠ ka_228 := Nat.ne_of_lt (Nat.lt_of_lt_of_le (fa222.ext E220).lt u227_1)
      have ne236 : vb_214 ≠ ka_228 := Nat.ne_of_lt (Nat.lt_of_lt_of_le (f213_3.ext E220).lt u227_1)
      have ne237 : b220 ≠ ka_228 := Nat.ne_of_lt (Nat.lt_of_lt_of_le A220.lt u227_1)
      have ne238 : b194 ≠ ia_229 := Nat.ne_of_lt (Nat.lt_of_lt_of_le (f213_0.ext E220).lt u227_3)
      have ne239 : b197 ≠ ia_229 := Nat.ne_of_lt (Nat.lt_of_lt_of_le (fa222.ext E220).lt u227_3)
      have ne240 : vb_214 ≠ ia_229 := Nat.ne_of_lt (Nat.lt_of_lt_of_le (f213_3.ext E220).lt u227_3)
      have ne241 : b220 ≠ ia_229 := Nat.ne_of_lt (Nat.lt_of_lt_of_le A220.lt u227_3)
      obtain ⟨cq242, kq242, q242a, q242b, q242c⟩ := isOf hZ rfl f227_0
      obtain ⟨_, _, ⟨T242, L242, k242, n242⟩, -, X242, ⟨Lc242, hQ242, l242, y242, z242⟩, st242⟩ := X227.virtualBack hx (y := oM2) (z := oM2) hown (mvT hZ (ow hw 25 rfl)) (mvT hZ (ow hw 26 rfl)) (notFace_of_selects (args := #[]) (mvT hZ (ow hw 28 rfl))) (mvT hZ (ow hw 28 rfl)) (mvT hZ (ow hw 27 rfl)) (by decide) (backOf (W := 0) (rm3d0 l Z a0 hw [] b220 ka_228 ia_229 kk_230 ki_231 (0 : Int32) (0 : Int32) T227.heap n0 Z233 f227_0 f227_1 f227_2 f227_3 f227_4 f227_5 gn_b220 u227_0 u227_2 ne237 ne241 u227_4) hZ (ow hw 29 rfl) (ow hw 11 rfl) (by decide) (by decide)) q242a q242c (g := (mkF m 112 #[.val (.int p0), .val (.int p1), .val (.int 1), .val (.int 0), .val (.ref b194), .val (.ref b220)] [(.ref b220)])) rfl (by rw [hml]; rfl) (Steps.refl _) (argsL := []) (rest := []) (lenOf pd21 rfl) rfl (Nat.le_of_eq rfl) (hb hby at_112) (fun _ _ => ⟨rfl, rfl, (by decide : 6 + 0 ≤ _), (by decide : 43 + 0 ≤ _)⟩)
      dsimp only [Pt.U, Pt.locs, Pt.cells, Pt.slots] at X242 l242 y242 z242 st242 hQ242
      subst l242 y242 z242
      obtain ⟨rfl, N242q, K242, f242_0, f242_1, f242_2, f242_3, f242_4, f242_5⟩ := hQ242
      have N242 := Fr.app N227 N242q
      have hk243 := Nat.le_trans hk232 K242.1
      have Z244 : n0 ≤ T242.heap.size := Nat.le_trans Z233 K242.1
      obtain ⟨cq245, kq245, q245a, q245b, q245c⟩ := isOf hZ rfl f242_0
      obtain ⟨_, _, ⟨T245, L245, k245, n245⟩, -, X245, ⟨Lc245, hQ245, l245, y245, z245⟩, st245⟩ := X242.virtualBack hx (y := oM3) (z := oM3) hown (mvT hZ (ow hw 158 rfl)) (mvT hZ (ow hw 159 rfl)) (notFace_of_selects (args := #[]) (mvT hZ (ow hw 161 rfl))) (mvT hZ (ow hw 161 rfl)) (mvT hZ (ow hw 160 rfl)) (by decide) (backOf (W := 0) (rm29d1 l Z a0 hw [] b220 ka_228 ia_229 kk_230 ki_231 (-1 : Int32) (0 : Int32) T242.heap n0 Z244 f242_0 f242_1 f242_2 f242_3 f242_4 f242_5 gn_b220 u227_0 u227_2 ne237 ne241 u227_4) hZ (ow hw 162 rfl) (ow hw 11 rfl) (by decide) (by decide)) q245a q245c (g := (mkF m 122 #[.val (.int p0), .val (.int p1), .val (.int 1), .val (.int 0), .val (.ref b194), .val (.ref b220)] [(.ref b220)])) rfl (by rw [hml]; rfl) (Steps.refl _) (argsL := []) (rest := []) (lenOf pd21 rfl) rfl (Nat.le_of_eq rfl) (hb hby at_122) (fun _ _ => ⟨rfl, rfl, (by decide : 6 + 0 ≤ _), (by decide : 43 + 0 ≤ _)⟩)
      dsimp only [Pt.U, Pt.locs, Pt.cells, Pt.slots] at X245 l245 y245 z245 st245 hQ245
      subst l245 y245 z245
      obtain ⟨rfl, N245q, K245, f245_0⟩ := hQ245
      have N245 := Fr.app N242 N245q
      have hk246 := Nat.le_trans hk243 K245.1
      have Z247 : n0 ≤ T245.heap.size := Nat.le_trans Z244 K245.1
      have ff248 : Arv Z T245.heap ia_229 ki_231 .int (16 : Int32) [(.int 0), (.int 0)] (.int 0) := by have q := f245_0; rw [show ((-1 : Int32) + (1 : Int32)) = (0 : Int32) from by decide] at q; exact q
      have fa249 := (f242_0.keep K245)
      have fa250 := (f242_1.keep K245 (ninS ne241 nin0))
      have fa251 := (f242_2.keep K245 (ninS ne241 nin0))
      have fa252 := (f242_3.keep K245 (ninS ne241 nin0))
      have fa253 := (f242_4.keep K245 (ninS u227_4 nin0))
      obtain ⟨cq254, kq254, q254a, q254b, q254c⟩ := isOf hZ rfl fa249
      obtain ⟨_, _, ⟨T254, L254, k254, n254⟩, -, X254, ⟨Lc254, hQ254, l254, y254, z254⟩, st254⟩ := X245.virtualBack hx (y := oM2) (z := oM2) hown (mvT hZ (ow hw 25 rfl)) (mvT hZ (ow hw 26 rfl)) (notFace_of_selects (args := #[]) (mvT hZ (ow hw 28 rfl))) (mvT hZ (ow hw 28 rfl)) (mvT hZ (ow hw 27 rfl)) (by decide) (backOf (W := 0) (rm3d1 l Z a0 hw [] b220 ka_228 ia_229 kk_230 ki_231 (0 : Int32) (0 : Int32) T245.heap n0 Z247 fa249 fa250 fa251 fa252 fa253 ff248 gn_b220 u227_0 u227_2 ne237 ne241 u227_4) hZ (ow hw 29 rfl) (ow hw 11 rfl) (by decide) (by decide)) q254a q254c (g := (mkF m 137 #[.val (.int p0), .val (.int p1), .val (.int 1), .val (.int 0), .val (.ref b194), .val (.ref b220)] [(.ref b220)])) rfl (by rw [hml]; rfl) (Steps.refl _) (argsL := []) (rest := []) (lenOf pd21 rfl) rfl (Nat.le_of_eq rfl) (hb hby at_137) (fun _ _ => ⟨rfl, rfl, (by decide : 6 + 0 ≤ _), (by decide : 43 + 0 ≤ _)⟩)
      dsimp only [Pt.U, Pt.locs, Pt.cells, Pt.slots] at X254 l254 y254 z254 st254 hQ254
      subst l254 y254 z254
      obtain ⟨rfl, N254q, K254, f254_0, f254_1, f254_2, f254_3, f254_4, f254_5⟩ := hQ254
      have N254 := Fr.app N245 N254q
      have hk255 := Nat.le_trans hk246 K254.1
      have Z256 : n0 ≤ T254.heap.size := Nat.le_trans Z247 K254.1
      have fa257 := ((((((fa212.keep K213 (allS (P := fun x => n0 ≤ x) gn_b194 all0)).ext E220).keep K227 (allS (P := fun x => n0 ≤ x) gn_b220 all0)).keep K242 (allS (P := fun x => n0 ≤ x) gn_b220 (allS (P := fun x => n0 ≤ x) u227_0 (allS (P := fun x => n0 ≤ x) u227_2 all0)))).keep K245 (allS (P := fun x => n0 ≤ x) u227_2 all0)).keep K254 (allS (P := fun x => n0 ≤ x) gn_b220 (allS (P := fun x => n0 ≤ x) u227_0 (allS (P := fun x => n0 ≤ x) u227_2 all0))))
      obtain ⟨cq258, kq258, q258a, q258b, q258c⟩ := isOf hZ rfl f254_0
      obtain ⟨_, _, ⟨T258, L258, k258, n258⟩, -, X258, ⟨Lc258, hQ258, l258, y258, z258⟩, st258⟩ := X254.virtualBack hx (y := oM28) (z := oM28) hown (mvT hZ (ow hw 36 rfl)) (mvT hZ (ow hw 37 rfl)) (notFace_of_selects (args := #[]) (mvT hZ (ow hw 39 rfl))) (mvT hZ (ow hw 39 rfl)) (mvT hZ (ow hw 38 rfl)) (by decide) (backOf (W := 0) (rm5_1 l Z a0 hw [] b220 ka_228 ia_229 kk_230 ki_231 cs da cd (0 : Int32) (48 : Int32) T254.heap n0 Z256 f254_0 f254_1 f254_2 f254_3 f254_4 f254_5 Cs (by first | assumption | decide | omega) fa257 Dd Da (by first | assumption | decide | omega) (by first | assumption | decide | omega) (by first | assumption | decide | omega) (by first | assumption | decide | omega)) hZ (ow hw 40 rfl) (ow hw 11 rfl) (by decide) (by decide)) q258a q258c (g := (mkF m 162 #[.val (.int p0), .val (.int p1), .val (.int 1), .val (.int 0), .val (.ref b194), .val (.ref b220)] [(.ref b220)])) rfl (by rw [hml]; rfl) (Steps.refl _) (argsL := []) (rest := []) (lenOf pd22 rfl) rfl (Nat.le_of_eq rfl) (hb hby at_162) (fun _ _ => ⟨rfl, rfl, (by decide : 6 + 4 ≤ _), (by decide : 43 + 26 ≤ _)⟩)
      dsimp only [Pt.U, Pt.locs, Pt.cells, Pt.slots] at X258 l258 y258 z258 st258 hQ258
      subst l258 y258 z258
      obtain ⟨sa_259, vb_260, kb_261, rfl, N258q, K258, u258_0, u258_1, u258_2, u258_3, f258_0, f258_1, f258_2, f258_3⟩ := hQ258
      have N258 := Fr.app N254 N258q
      have hk262 := Nat.le_trans hk255 K258.1
      have Z263 : n0 ≤ T258.heap.size := Nat.le_trans Z256 K258.1
      have ne264 : b194 ≠ sa_259 := Nat.ne_of_lt (Nat.lt_of_lt_of_le (((((f213_0.ext E220).keep K227).keep K242).keep K245).keep K254).lt u258_1)
      have ne265 : b197 ≠ sa_259 := Nat.ne_of_lt (Nat.lt_of_lt_of_le (((((fa222.ext E220).keep K227 (ninS ne223 nin0)).keep K242 (ninS ne223 (ninS ne235 (ninS ne239 nin0)))).keep K245 (ninS ne239 nin0)).keep K254 (ninS ne223 (ninS ne235 (ninS ne239 nin0)))).lt u258_1)
      have ne266 : vb_214 ≠ sa_259 := Nat.ne_of_lt (Nat.lt_of_lt_of_le (((((f213_3.ext E220).keep K227 (ninS ne224 nin0)).keep K242 (ninS ne224 (ninS ne236 (ninS ne240 nin0)))).keep K245 (ninS ne240 nin0)).keep K254 (ninS ne224 (ninS ne236 (ninS ne240 nin0)))).lt u258_1)
      have ne267 : b220 ≠ sa_259 := Nat.ne_of_lt (Nat.lt_of_lt_of_le f254_0.lt u258_1)
      have ne268 : ka_228 ≠ sa_259 := Nat.ne_of_lt (Nat.lt_of_lt_of_le f254_4.lt u258_1)
      have ne269 : ia_229 ≠ sa_259 := Nat.ne_of_lt (Nat.lt_of_lt_of_le f254_5.lt u258_1)
      have ne270 : b194 ≠ vb_260 := Nat.ne_of_lt (Nat.lt_of_lt_of_le (((((f213_0.ext E220).keep K227).keep K242).keep K245).keep K254).lt u258_3)
      have ne271 : b197 ≠ vb_260 := Nat.ne_of_lt (Nat.lt_of_lt_of_le (((((fa222.ext E220).keep K227 (ninS ne223 nin0)).keep K242 (ninS ne223 (ninS ne235 (ninS ne239 nin0)))).keep K245 (ninS ne239 nin0)).keep K254 (ninS ne223 (ninS ne235 (ninS ne239 nin0)))).lt u258_3)
      have ne272 : vb_214 ≠ vb_260 := Nat.ne_of_lt (Nat.lt_of_lt_of_le (((((f213_3.ext E220).keep K227 (ninS ne224 nin0)).keep K242 (ninS ne224 (ninS ne236 (ninS ne240 nin0)))).keep K245 (ninS ne240 nin0)).keep K254 (ninS ne224 (ninS ne236 (ninS ne240 nin0)))).lt u258_3)
      have ne273 : b220 ≠ vb_260 := Nat.ne_of_lt (Nat.lt_of_lt_of_le f254_0.lt u258_3)
      have ne274 : ka_228 ≠ vb_260 := Nat.ne_of_lt (Nat.lt_of_lt_of_le f254_4.lt u258_3)
      have ne275 : ia_229 ≠ vb_260 := Nat.ne_of_lt (Nat.lt_of_lt_of_le f254_5.lt u258_3)
      have fa276 := ((((((f213_0.ext E220).keep K227).keep K242).keep K245).keep K254).keep K258)
      have fa277 := ((((((f213_1.ext E220).keep K227 (ninS ne221 nin0)).keep K242 (ninS ne221 (ninS ne234 (ninS ne238 nin0)))).keep K245 (ninS ne238 nin0)).keep K254 (ninS ne221 (ninS ne234 (ninS ne238 nin0)))).keep K258 nin0)
      have fa278 := ((((((f213_2.ext E220).keep K227 (ninS ne221 nin0)).keep K242 (ninS ne221 (ninS ne234 (ninS ne238 nin0)))).keep K245 (ninS ne238 nin0)).keep K254 (ninS ne221 (ninS ne234 (ninS ne238 nin0)))).keep K258 nin0)
      have fa279 := ((((((f213_3.ext E220).keep K227 (ninS ne224 nin0)).keep K242 (ninS ne224 (ninS ne236 (ninS ne240 nin0)))).keep K245 (ninS ne240 nin0)).keep K254 (ninS ne224 (ninS ne236 (ninS ne240 nin0)))).keep K258 nin0)
      have fa280 := (fa257.keep K258 all0)
      obtain ⟨cq281, kq281, q281a, q281b, q281c⟩ := isOf hZ rfl f258_0
      obtain ⟨_, _, ⟨T281, L281, k281, n281⟩, -, X281, ⟨Lc281, hQ281, l281, y281, z281⟩, st281⟩ := X258.virtualBack hx (y := oM30) (z := oM30) hown (mvT hZ (ow hw 114 rfl)) (mvT hZ (ow hw 115 rfl)) (notFace_of_selects (args := #[]) (mvT hZ (ow hw 117 rfl))) (mvT hZ (ow hw 117 rfl)) (mvT hZ (ow hw 116 rfl)) (by decide) (backOf (W := 0) (rm19n2 l Z a0 hw [] sa_259 b194 vb_260 kb_261 vb_214 kb_215 (47 : Int32) (48 : Int32) cs T258.heap n0 Z263 f258_0 f258_1 f258_2 f258_3 fa276 fa277 fa278 fa279 (Ne.symm ne264) Cs (by first | assumption | decide | omega) fa280) hZ (ow hw 118 rfl) (ow hw 2 rfl) (by decide) (by decide)) q281a q281c (g := (mkF m 167 #[.val (.int p0), .val (.int p1), .val (.int 1), .val (.int 0), .val (.ref b194), .val (.ref b220)] [(.ref b194), (.ref sa_259)])) rfl (by rw [hml]; rfl) (Steps.refl _) (argsL := [(.ref b194)]) (rest := []) (lenOf pd32 rfl) rfl (Nat.le_of_eq rfl) (hb hby at_167) (fun _ _ => ⟨rfl, rfl, (by decide : 10 + 0 ≤ _), (by decide : 69 + 0 ≤ _)⟩)
      dsimp only [Pt.U, Pt.locs, Pt.cells, Pt.slots] at X281 l281 y281 z281 st281 hQ281
      subst l281 y281 z281
      obtain ⟨rfl, N281q, e281⟩ := hQ281
      have N281 := Fr.app N258 N281q
      have fa282 := (f254_0.keep K258)
      have fa283 := (f254_2.keep K258 nin0)
      have fa284 := (f254_3.keep K258 nin0)
      have fa285 := (f254_5.keep K258 nin0)
      obtain ⟨cq286, kq286, q286a, q286b, q286c⟩ := isOf hZ e281 fa282
      obtain ⟨_, _, ⟨T286, L286, k286, n286⟩, -, X286, ⟨Lc286, hQ286, l286, y286, z286⟩, st286⟩ := X281.virtualBack hx (y := oM6) (z := oM6) hown (mvT hZ (ow hw 125 rfl)) (mvT hZ (ow hw 126 rfl)) (notFace_of_selects (args := #[]) (mvT hZ (ow hw 128 rfl))) (mvT hZ (ow hw 128 rfl)) (mvT hZ (ow hw 127 rfl)) (by decide) (backOf (W := 0) (rm21m l Z a0 hw [] b220 ia_229 ki_231 (0 : Int32) (-1 : Int32) T258.heap n0 Z263 fa282 fa283 fa284 fa285 (by first | assumption | decide | omega) (by first | assumption | decide | omega)) hZ (ow hw 129 rfl) (ow hw 11 rfl) (by decide) (by decide)) q286a q286c (g := (mkF m 175 #[.val (.int p0), .val (.int p1), .val (.int 1), .val (.int 0), .val (.ref b194), .val (.ref b220)] [(.ref b220)])) rfl (by rw [hml]; rfl) (Steps.refl _) (argsL := []) (rest := []) (lenOf pd2 rfl) rfl (Nat.le_of_eq rfl) (hb hby at_175) (fun _ _ => ⟨rfl, e281, (by decide : 10 + 0 ≤ _), (by decide : 69 + 0 ≤ _)⟩)
      dsimp only [Pt.U, Pt.locs, Pt.cells, Pt.slots] at X286 l286 y286 z286 st286 hQ286
      subst l286 y286 z286
      obtain ⟨rfl, N286q, e286⟩ := hQ286
      have N286 := Fr.app N281 N286q
      obtain ⟨cq287, kq287, q287a, q287b, q287c⟩ := isOf hZ e286 fa282
      obtain ⟨_, _, ⟨T287, L287, k287, n287⟩, -, X287, ⟨Lc287, hQ287, l287, y287, z287⟩, st287⟩ := X286.virtualBack hx (y := oM4) (z := oM4) hown (mvT hZ (ow hw 135 rfl)) (mvT hZ (ow hw 136 rfl)) (notFace_of_selects (args := #[]) (mvT hZ (ow hw 138 rfl))) (mvT hZ (ow hw 138 rfl)) (mvT hZ (ow hw 137 rfl)) (by decide) (backOf (W := 0) (rm23 l Z a0 hw [] b220 T258.heap n0 Z263 fa284) hZ (ow hw 139 rfl) (ow hw 11 rfl) (by decide) (by decide)) q287a q287c (g := (mkF m 192 #[.val (.int p0), .val (.int p1), .val (.int 1), .val (.int 0), .val (.ref b194), .val (.ref b220)] [(.ref b220)])) rfl (by rw [hml]; rfl) (Steps.refl _) (argsL := []) (rest := []) (lenOf pd12 rfl) rfl (Nat.le_of_eq rfl) (hb hby at_192) (fun _ _ => ⟨rfl, e286, (by decide : 10 + 0 ≤ _), (by decide : 69 + 0 ≤ _)⟩)
      dsimp only [Pt.U, Pt.locs, Pt.cells, Pt.slots] at X287 l287 y287 z287 st287 hQ287
      subst l287 y287 z287
      obtain ⟨rfl, N287q, e287⟩ := hQ287
      have N287 := Fr.app N286 N287q
      obtain ⟨fsZ, hrZ, hrun, hended, hRE⟩ := X287.leaveW hS0 (by rw [e287]; exact hk262) (v := some (.int 1)) (fun h => by rw [Bd.returns] at h; cases h)
      refine ⟨_, _, pre1 _ ?_, hrun, hended, _, _, rfl, ?_, hRE.1, hRE.2.1, hRE.2.2.1, hRE.2.2.2.mono (by decide) (by decide)⟩
      · show Steps _ _ _ (s₁.setTop (mkF m 14 #[.val (.int p0), .val (.int p1), .val (.int 1), .val (.int 0), .unset, .unset] [])) _
        refine XS.iloadN X0.here hx rfl (hb hby at_14) rfl  ?_
        refine XS.ifYes X0.here hx rfl (pc0 := 15) (pc' := 25) rfl (hb hby at_15) rfl ((if0 _ _).trans (feq (by decide)).2) (by decide) (by decide) ?_
        refine XS.iloadN X0.here hx rfl (hb hby at_25) rfl  ?_
        refine XS.ifNo X0.here hx rfl (hb hby at_26) rfl ((if0 _ _).trans (teq (by decide)).2) ?_
        show Steps _ _ _ (s₁.setTop (mkF m 29 #[.val (.int p0), .val (.int p1), .val (.int 1), .val (.int 0), .unset, .unset] [])) _
        refine st194 _ ?_
        refine XS.dup X194.here hx rfl (hb hby at_32) rfl rfl ?_
        refine XS.iconst X194.here hx rfl (hb hby at_33) ?_
        show Steps _ _ _ (T194.setTop (mkF m 34 #[.val (.int p0), .val (.int p1), .val (.int 1), .val (.int 0), .unset, .unset] [(.int 2), (.ref b194), (.ref b194)])) _
        refine st197 _ ?_
        refine XS.dup X197.here hx rfl (hb hby at_36) rfl rfl ?_
        refine XS.iconst X197.here hx rfl (hb hby at_37) ?_
        refine XS.bipush X197.here hx rfl (hb hby at_38) ?_
        show Steps _ _ _ (T197.setTop (mkF m 40 #[.val (.int p0), .val (.int p1), .val (.int 1), .val (.int 0), .unset, .unset] [(.int 47), (.int 0), (.ref b197), (.ref b197), (.ref b194), (.ref b194)])) _
        refine st202 _ ?_
        refine XS.dup X202.here hx rfl (hb hby at_41) rfl rfl ?_
        refine XS.iconst X202.here hx rfl (hb hby at_42) ?_
        refine XS.bipush X202.here hx rfl (hb hby at_43) ?_
        refine XS.iloadN X202.here hx rfl (hb hby at_45) rfl  ?_
        refine XS.iadd X202.here hx rfl (hb hby at_46) rfl ?_
        show Steps _ _ _ (T202.setTop (mkF m 47 #[.val (.int p0), .val (.int p1), .val (.int 1), .val (.int 0), .unset, .unset] [(.int ((48 : Int32) + (1 : Int32))), (.int 1), (.ref b197), (.ref b197), (.ref b194), (.ref b194)])) _
        rw [show ((48 : Int32) + (1 : Int32)) = (49 : Int32) from by decide]
        show Steps _ _ _ (T202.setTop (mkF m 47 #[.val (.int p0), .val (.int p1), .val (.int 1), .val (.int 0), .unset, .unset] [(.int 49), (.int 1), (.ref b197), (.ref b197), (.ref b194), (.ref b194)])) _
        refine XS.iconst X202.here hx rfl (hb hby at_47) ?_
        refine XS.isub X202.here hx rfl (hb hby at_48) rfl ?_
        show Steps _ _ _ (T202.setTop (mkF m 49 #[.val (.int p0), .val (.int p1), .val (.int 1), .val (.int 0), .unset, .unset] [(.int ((49 : Int32) - (1 : Int32))), (.int 1), (.ref b197), (.ref b197), (.ref b194), (.ref b194)])) _
        rw [show ((49 : Int32) - (1 : Int32)) = (48 : Int32) from by decide]
        show Steps _ _ _ (T202.setTop (mkF m 49 #[.val (.int p0), .val (.int p1), .val (.int 1), .val (.int 0), .unset, .unset] [(.int 48), (.int 1), (.ref b197), (.ref b197), (.ref b194), (.ref b194)])) _
        refine XS.i2c X202.here hx rfl (hb hby at_49) rfl ?_
        show Steps _ _ _ (T202.setTop (mkF m 50 #[.val (.int p0), .val (.int p1), .val (.int 1), .val (.int 0), .unset, .unset] [(.int ((48 : Int32).toUInt32.toUInt16.toUInt32.toInt32)), (.int 1), (.ref b197), (.ref b197), (.ref b194), (.ref b194)])) _
        rw [show ((48 : Int32).toUInt32.toUInt16.toUInt32.toInt32) = (48 : Int32) from by decide]
        show Steps _ _ _ (T202.setTop (mkF m 50 #[.val (.int p0), .val (.int p1), .val (.int 1), .val (.int 0), .unset, .unset] [(.int 48), (.int 1), (.ref b197), (.ref b197), (.ref b194), (.ref b194)])) _
        refine st206 _ ?_
        show Steps _ _ _ (T206.setTop (mkF m 51 #[.val (.int p0), .val (.int p1), .val (.int 1), .val (.int 0), .unset, .unset] [(.ref b197), (.ref b194), (.ref b194)])) _
        refine st213.trans ?_
        refine XS.astore X213.here hx rfl (hb hby at_54) rfl rfl (l' := #[.val (.int p0), .val (.int p1), .val (.int 1), .val (.int 0), .val (.ref b194), .unset]) rfl ?_
        refine XS.goto X213.here hx rfl (pc0 := 56) (pc' := 101) rfl (hb hby at_56) (by decide) (by decide) ?_
        show Steps _ _ _ (T213.setTop (mkF m 101 #[.val (.int p0), .val (.int p1), .val (.int 1), .val (.int 0), .val (.ref b194), .unset] [])) _
        refine st220 _ ?_
        refine XS.dup X220.here hx rfl (hb hby at_104) rfl rfl ?_
        show Steps _ _ _ (T220.setTop (mkF m 105 #[.val (.int p0), .val (.int p1), .val (.int 1), .val (.int 0), .val (.ref b194), .unset] [(.ref b220), (.ref b220)])) _
        refine st227.trans ?_
        refine XS.astore X227.here hx rfl (hb hby at_108) rfl rfl (l' := #[.val (.int p0), .val (.int p1), .val (.int 1), .val (.int 0), .val (.ref b194), .val (.ref b220)]) rfl ?_
        refine XS.aload X227.here hx rfl (hb hby at_110) rfl rfl ?_
        show Steps _ _ _ (T227.setTop (mkF m 112 #[.val (.int p0), .val (.int p1), .val (.int 1), .val (.int 0), .val (.ref b194), .val (.ref b220)] [(.ref b220)])) _
        refine st242.trans ?_
        refine XS.iloadN X242.here hx rfl (hb hby at_115) rfl  ?_
        refine XS.iconst X242.here hx rfl (hb hby at_116) ?_
        refine XS.icmpNo X242.here hx rfl (hb hby at_117) rfl (flt (by decide)).1 ?_
        refine XS.aload X242.here hx rfl (hb hby at_120) rfl rfl ?_
        show Steps _ _ _ (T242.setTop (mkF m 122 #[.val (.int p0), .val (.int p1), .val (.int 1), .val (.int 0), .val (.ref b194), .val (.ref b220)] [(.ref b220)])) _
        refine st245.trans ?_
        refine XS.iloadN X245.here hx rfl (hb hby at_125) rfl  ?_
        refine XS.iconst X245.here hx rfl (hb hby at_126) ?_
        refine XS.icmpYes X245.here hx rfl (pc0 := 127) (pc' := 135) rfl (hb hby at_127) rfl (tlt (by decide)).1 (by decide) (by decide) ?_
        refine XS.aload X245.here hx rfl (hb hby at_135) rfl rfl ?_
        show Steps _ _ _ (T245.setTop (mkF m 137 #[.val (.int p0), .val (.int p1), .val (.int 1), .val (.int 0), .val (.ref b194), .val (.ref b220)] [(.ref b220)])) _
        refine st254.trans ?_
        refine XS.iloadN X254.here hx rfl (hb hby at_140) rfl  ?_
        refine XS.iconst X254.here hx rfl (hb hby at_141) ?_
        refine XS.icmpYes X254.here hx rfl (pc0 := 142) (pc' := 150) rfl (hb hby at_142) rfl (tlt (by decide)).1 (by decide) (by decide) ?_
        refine XS.iloadN X254.here hx rfl (hb hby at_150) rfl  ?_
        refine XS.iconst X254.here hx rfl (hb hby at_151) ?_
        refine XS.icmpYes X254.here hx rfl (pc0 := 152) (pc' := 160) rfl (hb hby at_152) rfl (tlt (by decide)).1 (by decide) (by decide) ?_
        refine XS.aload X254.here hx rfl (hb hby at_160) rfl rfl ?_
        show Steps _ _ _ (T254.setTop (mkF m 162 #[.val (.int p0), .val (.int p1), .val (.int 1), .val (.int 0), .val (.ref b194), .val (.ref b220)] [(.ref b220)])) _
        refine st258.trans ?_
        refine XS.aload X258.here hx rfl (hb hby at_165) rfl rfl ?_
        show Steps _ _ _ (T258.setTop (mkF m 167 #[.val (.int p0), .val (.int p1), .val (.int 1), .val (.int 0), .val (.ref b194), .val (.ref b220)] [(.ref b194), (.ref sa_259)])) _
        refine st281.trans ?_
        refine XS.ifNo X281.here hx rfl (hb hby at_170) rfl ((if0 _ _).trans (feq (by decide)).1) ?_
        refine XS.aload X281.here hx rfl (hb hby at_173) rfl rfl ?_
        show Steps _ _ _ (T281.setTop (mkF m 175 #[.val (.int p0), .val (.int p1), .val (.int 1), .val (.int 0), .val (.ref b194), .val (.ref b220)] [(.ref b220)])) _
        refine st286.trans ?_
        refine XS.iloadN X286.here hx rfl (hb hby at_178) rfl  ?_
        refine XS.ifNo X286.here hx rfl (hb hby at_179) rfl ((if0 _ _).trans (teq (by decide)).2) ?_
        refine XS.iconst X286.here hx rfl (hb hby at_182) ?_
        refine XS.goto X286.here hx rfl (pc0 := 183) (pc' := 187) rfl (hb hby at_183) (by decide) (by decide) ?_
        refine XS.icmpNo X286.here hx rfl (hb hby at_187) rfl (teq (by decide)).2 ?_
        refine XS.aload X286.here hx rfl (hb hby at_190) rfl rfl ?_
        show Steps _ _ _ (T286.setTop (mkF m 192 #[.val (.int p0), .val (.int p1), .val (.int 1), .val (.int 0), .val (.ref b194), .val (.ref b220)] [(.ref b220)])) _
        refine st287.trans ?_
        refine XS.iconst X287.here hx rfl (hb hby at_195) ?_
        refine XS.icmpNo X287.here hx rfl (hb hby at_196) rfl (teq (by decide)).2 ?_
        refine XS.iconst X287.here hx rfl (hb hby at_199) ?_
        refine XS.goto X287.here hx rfl (pc0 := 200) (pc' := 204) rfl (hb hby at_200) (by decide) (by decide) ?_
        show Steps _ _ _ (T287.setTop (mkF m 204 #[.val (.int p0), .val (.int p1), .val (.int 1), .val (.int 0), .val (.ref b194), .val (.ref b220)] [(.int 1)])) _
        exact retN X287 hx (t := .boolean) Bd.returns (by simp) (hb hby at_204) hrZ
      · show Q0 Z p0 p1 cs da cd h0 n0 _ T287.heap _
        rw [e287]
        exact ⟨rfl, N287⟩
    ·  -- k2 = 1
      obtain ⟨T288, h288, X288, e288, E288, A288, D288, -, st288⟩ := newO X0 hx hZ hown (ow hw 140 rfl) (ow hw 3 rfl) (ow hw 2 rfl) e0 (g := (mkF m 59 #[.val (.int p0), .val (.int p1), .val (.int 1), .val (.int 1), .unset, .unset] [])) rfl (hb hby at_59) (by decide) (by decide)
      obtain ⟨b288, g288⟩ : ∃ z, z = h0.size := ⟨_, rfl⟩
      rw [← g288] at A288 D288 st288
      have gn_b288 : n0 ≤ b288 := Nat.le_trans Z0 (Nat.le_of_eq g288.symm)
      have hk289 := Nat.le_trans hk0 E288.1
      have Z290 : n0 ≤ h288.size := Nat.le_trans Z0 E288.1
      have F_value_b288 : Fld Z h288 b288 oS "value" "[B" .null := D288 (Or.inr (ow hw 5 rfl)) (ty := (.array .byte)) (by decide)
      have F_coder_b288 : Fld Z h288 b288 oS "coder" "B" (.int 0) := D288 (Or.inr (ow hw 6 rfl)) (ty := .byte) (by decide)
      obtain ⟨T291, h291, k291, X291, e291, E291, A291, st291⟩ := newP X288 hx hZ (ow hw 141 rfl) e288 (g := (mkF m 64 #[.val (.int p0), .val (.int p1), .val (.int 1), .val (.int 1), .unset, .unset] [(.int 4), (.ref b288), (.ref b288)])) rfl (hb hby at_64) rfl (by decide) (cap := 4) (by decide) (by decide) (by decide) (by decide)
      obtain ⟨b291, g291⟩ : ∃ z, z = h288.size := ⟨_, rfl⟩
      rw [← g291] at A291 st291
      have ne292 : b288 ≠ b291 := Nat.ne_of_lt (Nat.lt_of_lt_of_le A288.lt (Nat.le_of_eq g291.symm))
      have gn_b291 : n0 ≤ b291 := Nat.le_trans Z290 (Nat.le_of_eq g291.symm)
      have hk293 := Nat.le_trans hk289 E291.1
      have Z294 : n0 ≤ h291.size := Nat.le_trans Z290 E291.1
      have V291 : Arv Z h291 b291 k291 .char (4 : Int32) [(.int 0), (.int 0), (.int 0), (.int 0)] (.int 0) := (Arv.new A291 (by decide)).pad (pad_rep [] (.int 0) 4)
      obtain ⟨c295, Arc295, qc295, Sc295, Mc295, Hc295, Gc295⟩ := id V291
      have hinc295 : ¬ ((0 : Int32) < 0 ∨ c295.slots.size ≤ ((0 : Int32)).toNatClampNeg) := inb_of Sc295 ⟨by decide, by decide⟩
      obtain ⟨T296, h296, X296, e296, W296, st296⟩ := stC X291 hx hZ e291 Arc295 (j := (0 : Int32)) hinc295  (g := (mkF m 70 #[.val (.int p0), .val (.int p1), .val (.int 1), .val (.int 1), .unset, .unset] [(.int 47), (.int 0), (.ref b291), (.ref b291), (.ref b288), (.ref b288)])) rfl rfl (hb hby at_70)
      have V296 : Arv Z h296 b291 k291 .char (4 : Int32) [(.int 47), (.int 0), (.int 0), (.int 0)] (.int 0) := Arv.set Arc295 qc295 Sc295 Mc295 Hc295 Gc295 (fits_nar_char _) W296 0 rfl (Nat.le_of_ble_eq_true rfl)
      have hk297 := Nat.le_trans hk293 (Nat.le_of_eq W296.size.symm)
      have Z298 : n0 ≤ h296.size := Nat.le_trans Z294 (Nat.le_of_eq W296.size.symm)
      have N296 := Fr.snoc X296 N0 gn_b291
      obtain ⟨c299, Arc299, qc299, Sc299, Mc299, Hc299, Gc299⟩ := id V296
      have hinc299 : ¬ ((1 : Int32) < 0 ∨ c299.slots.size ≤ ((1 : Int32)).toNatClampNeg) := inb_of Sc299 ⟨by decide, by decide⟩
      obtain ⟨T300, h300, X300, e300, W300, st300⟩ := stC X296 hx hZ e296 Arc299 (j := (1 : Int32)) hinc299  (g := (mkF m 80 #[.val (.int p0), .val (.int p1), .val (.int 1), .val (.int 1), .unset, .unset] [(.int 48), (.int 1), (.ref b291), (.ref b291), (.ref b288), (.ref b288)])) rfl rfl (hb hby at_80)
      have V300 : Arv Z h300 b291 k291 .char (4 : Int32) [(.int 47), (.int 48), (.int 0), (.int 0)] (.int 0) := Arv.set Arc299 qc299 Sc299 Mc299 Hc299 Gc299 (fits_nar_char _) W300 1 rfl (Nat.le_of_ble_eq_true rfl)
      have hk301 := Nat.le_trans hk297 (Nat.le_of_eq W300.size.symm)
      have Z302 : n0 ≤ h300.size := Nat.le_trans Z298 (Nat.le_of_eq W300.size.symm)
      have N300 := Fr.snoc X300 N296 gn_b291
      obtain ⟨c303, Arc303, qc303, Sc303, Mc303, Hc303, Gc303⟩ := id V300
      have hinc303 : ¬ ((2 : Int32) < 0 ∨ c303.slots.size ≤ ((2 : Int32)).toNatClampNeg) := inb_of Sc303 ⟨by decide, by decide⟩
      obtain ⟨T304, h304, X304, e304, W304, st304⟩ := stC X300 hx hZ e300 Arc303 (j := (2 : Int32)) hinc303  (g := (mkF m 85 #[.val (.int p0), .val (.int p1), .val (.int 1), .val (.int 1), .unset, .unset] [(.int 47), (.int 2), (.ref b291), (.ref b291), (.ref b288), (.ref b288)])) rfl rfl (hb hby at_85)
      have V304 : Arv Z h304 b291 k291 .char (4 : Int32) [(.int 47), (.int 48), (.int 47), (.int 0)] (.int 0) := Arv.set Arc303 qc303 Sc303 Mc303 Hc303 Gc303 (fits_nar_char _) W304 2 rfl (Nat.le_of_ble_eq_true rfl)
      have hk305 := Nat.le_trans hk301 (Nat.le_of_eq W304.size.symm)
      have Z306 : n0 ≤ h304.size := Nat.le_trans Z302 (Nat.le_of_eq W304.size.symm)
      have N304 := Fr.snoc X304 N300 gn_b291
      obtain ⟨c307, Arc307, qc307, Sc307, Mc307, Hc307, Gc307⟩ := id V304
      have hinc307 : ¬ ((3 : Int32) < 0 ∨ c307.slots.size ≤ ((3 : Int32)).toNatClampNeg) := inb_of Sc307 ⟨by decide, by decide⟩
      obtain ⟨T308, h308, X308, e308, W308, st308⟩ := stC X304 hx hZ e304 Arc307 (j := (3 : Int32)) hinc307  (g := (mkF m 95 #[.val (.int p0), .val (.int p1), .val (.int 1), .val (.int 1), .unset, .unset] [(.int 48), (.int 3), (.ref b291), (.ref b291), (.ref b288), (.ref b288)])) rfl rfl (hb hby at_95)
      have V308 : Arv Z h308 b291 k291 .char (4 : Int32) [(.int 47), (.int 48), (.int 47), (.int 48)] (.int 0) := Arv.set Arc307 qc307 Sc307 Mc307 Hc307 Gc307 (fits_nar_char _) W308 3 rfl (Nat.le_of_ble_eq_true rfl)
      have hk309 := Nat.le_trans hk305 (Nat.le_of_eq W308.size.symm)
      have Z310 : n0 ≤ h308.size := Nat.le_trans Z306 (Nat.le_of_eq W308.size.symm)
      have N308 := Fr.snoc X308 N304 gn_b291
      have fa311 := (((((A288.ext E291).wr W296).wr W300).wr W304).wr W308)
      have fa312 := (((((F_coder_b288.ext E291).other W296 (Or.inl ne292)).other W300 (Or.inl ne292)).other W304 (Or.inl ne292)).other W308 (Or.inl ne292))
      have fa313 := (((((F_value_b288.ext E291).other W296 (Or.inl ne292)).other W300 (Or.inl ne292)).other W304 (Or.inl ne292)).other W308 (Or.inl ne292))
      have fa314 := ((((((Ox.ext E288).ext E291).wr W296 gn_b291).wr W300 gn_b291).wr W304 gn_b291).wr W308 gn_b291)
      obtain ⟨_, _, ⟨T315, L315, k315, n315⟩, -, X315, ⟨Lc315, hQ315, l315, y315, z315⟩, st315⟩ := X308.specialBack hx (y := oM35) rfl hown (mvT hZ (ow hw 142 rfl)) (mvT hZ (ow hw 143 rfl)) (mvT hZ (ow hw 144 rfl)) (by decide) (backOf (W := 1) (rm24n4 l Z a0 hw [] b288 b291 (.int 0) .null k291 (47 : Int32) (48 : Int32) (47 : Int32) (48 : Int32) cs h308 n0 Z310 fa311 fa312 fa313 gn_b288 V308 ne292 (by first | assumption | decide | omega) (by first | assumption | decide | omega) (by first | assumption | decide | omega) (by first | assumption | decide | omega) (by first | assumption | decide | omega) (by first | assumption | decide | omega) (by first | assumption | decide | omega) (by first | assumption | decide | omega) Cs (by first | assumption | decide | omega) fa314) hZ (ow hw 144 rfl) (ow hw 2 rfl) (by decide) (by decide)) (g := (mkF m 96 #[.val (.int p0), .val (.int p1), .val (.int 1), .val (.int 1), .unset, .unset] [(.ref b291), (.ref b288), (.ref b288)])) rfl (by rw [hml]; rfl) (Steps.refl _) (a := b288) (argsL := [(.ref b291)]) (rest := [(.ref b288)]) (lenOf pd33 rfl) rfl (Nat.le_of_eq rfl) (hb hby at_96) (fun _ _ => ⟨rfl, e308, (by decide : 2 + 1 ≤ _), (by decide : 8 + 4 ≤ _)⟩)
      dsimp only [Pt.U, Pt.locs, Pt.cells, Pt.slots] at X315 l315 y315 z315 st315 hQ315
      subst l315 y315 z315
      obtain ⟨vb_316, kb_317, rfl, N315q, K315, u315_0, u315_1, f315_0, f315_1, f315_2, f315_3⟩ := hQ315
      have N315 := Fr.app N308 N315q
      have hk318 := Nat.le_trans hk309 K315.1
      have Z319 : n0 ≤ T315.heap.size := Nat.le_trans Z310 K315.1
      have ne320 : b288 ≠ vb_316 := Nat.ne_of_lt (Nat.lt_of_lt_of_le fa311.lt u315_1)
      have ne321 : b291 ≠ vb_316 := Nat.ne_of_lt (Nat.lt_of_lt_of_le V308.lt u315_1)
      obtain ⟨T322, h322, X322, e322, E322, A322, D322, -, st322⟩ := newO X315 hx hZ hown (ow hw 9 rfl) (ow hw 10 rfl) (ow hw 11 rfl) rfl (g := (mkF m 101 #[.val (.int p0), .val (.int p1), .val (.int 1), .val (.int 1), .val (.ref b288), .unset] [])) rfl (hb hby at_101) (by decide) (by decide)
      obtain ⟨b322, g322⟩ : ∃ z, z = T315.heap.size := ⟨_, rfl⟩
      rw [← g322] at A322 D322 st322
      have ne323 : b288 ≠ b322 := Nat.ne_of_lt (Nat.lt_of_lt_of_le f315_0.lt (Nat.le_of_eq g322.symm))
      have fa324 := (V308.keep K315 (ninS (Ne.symm ne292) nin0))
      have ne325 : b291 ≠ b322 := Nat.ne_of_lt (Nat.lt_of_lt_of_le fa324.lt (Nat.le_of_eq g322.symm))
      have ne326 : vb_316 ≠ b322 := Nat.ne_of_lt (Nat.lt_of_lt_of_le f315_3.lt (Nat.le_of_eq g322.symm))
      have gn_b322 : n0 ≤ b322 := Nat.le_trans Z319 (Nat.le_of_eq g322.symm)
      have hk327 := Nat.le_trans hk318 E322.1
      have Z328 : n0 ≤ h322.size := Nat.le_trans Z319 E322.1
      have F_keys_b322 : Fld Z h322 b322 oJ "keys" "[Ljava/lang/String;" .null := D322 (Or.inl (ow hw 21 rfl)) (ty := (.array (.object oS))) (by decide)
      have F_indexes_b322 : Fld Z h322 b322 oJ "indexes" "[I" .null := D322 (Or.inl (ow hw 24 rfl)) (ty := (.array .int)) (by decide)
      have F_depth_b322 : Fld Z h322 b322 oJ "depth" "I" (.int 0) := D322 (Or.inl (ow hw 35 rfl)) (ty := .int) (by decide)
      obtain ⟨_, _, ⟨T329, L329, k329, n329⟩, -, X329, ⟨Lc329, hQ329, l329, y329, z329⟩, st329⟩ := X322.specialBack hx (y := oM0) rfl hown (mvT hZ (ow hw 12 rfl)) (mvT hZ (ow hw 13 rfl)) (mvT hZ (ow hw 14 rfl)) (by decide) (backOf (W := 1) (rm1 l Z a0 hw [] b322 .null .null h322 n0 Z328 A322 F_keys_b322 F_indexes_b322 F_depth_b322 gn_b322) hZ (ow hw 14 rfl) (ow hw 11 rfl) (by decide) (by decide)) (g := (mkF m 105 #[.val (.int p0), .val (.int p1), .val (.int 1), .val (.int 1), .val (.ref b288), .unset] [(.ref b322), (.ref b322)])) rfl (by rw [hml]; rfl) (Steps.refl _) (a := b322) (argsL := []) (rest := [(.ref b322)]) (lenOf pd21 rfl) rfl (Nat.le_of_eq rfl) (hb hby at_105) (fun _ _ => ⟨rfl, e322, (by decide : 4 + 2 ≤ _), (by decide : 15 + 32 ≤ _)⟩)
      dsimp only [Pt.U, Pt.locs, Pt.cells, Pt.slots] at X329 l329 y329 z329 st329 hQ329
      subst l329 y329 z329
      obtain ⟨ka_330, ia_331, kk_332, ki_333, rfl, N329q, K329, u329_0, u329_1, u329_2, u329_3, u329_4, f329_0, f329_1, f329_2, f329_3, f329_4, f329_5⟩ := hQ329
      have N329 := Fr.app N315 N329q
      have hk334 := Nat.le_trans hk327 K329.1
      have Z335 : n0 ≤ T329.heap.size := Nat.le_trans Z328 K329.1
      have ne336 : b288 ≠ ka_330 := Nat.ne_of_lt (Nat.lt_of_lt_of_le (f315_0.ext E322).lt u329_1)
      have ne337 : b291 ≠ ka_330 := Nat.ne_of_lt (Nat.lt_of_lt_of_le (fa324.ext E322).lt u329_1)
      have ne338 : vb_316 ≠ ka_330 := Nat.ne_of_lt (Nat.lt_of_lt_of_le (f315_3.ext E322).lt u329_1)
      have ne339 : b322 ≠ ka_330 := Nat.ne_of_lt (Nat.lt_of_lt_of_le A322.lt u329_1)
      have ne340 : b288 ≠ ia_331 := Nat.ne_of_lt (Nat.lt_of_lt_of_le (f315_0.ext E322).lt u329_3)
      have ne341 : b291 ≠ ia_331 := Nat.ne_of_lt (Nat.lt_of_lt_of_le (fa324.ext E322).lt u329_3)
      have ne342 : vb_316 ≠ ia_331 := Nat.ne_of_lt (Nat.lt_of_lt_of_le (f315_3.ext E322).lt u329_3)
      have ne343 : b322 ≠ ia_331 := Nat.ne_of_lt (Nat.lt_of_lt_of_le A322.lt u329_3)
      obtain ⟨cq344, kq344, q344a, q344b, q344c⟩ := isOf hZ rfl f329_0
      obtain ⟨_, _, ⟨T344, L344, k344, n344⟩, -, X344, ⟨Lc344, hQ344, l344, y344, z344⟩, st344⟩ := X329.virtualBack hx (y := oM2) (z := oM2) hown (mvT hZ (ow hw 25 rfl)) (mvT hZ (ow hw 26 rfl)) (notFace_of_selects (args := #[]) (mvT hZ (ow hw 28 rfl))) (mvT hZ (ow hw 28 rfl)) (mvT hZ (ow hw 27 rfl)) (by decide) (backOf (W := 0) (rm3d0 l Z a0 hw [] b322 ka_330 ia_331 kk_332 ki_333 (0 : Int32) (0 : Int32) T329.heap n0 Z335 f329_0 f329_1 f329_2 f329_3 f329_4 f329_5 gn_b322 u329_0 u329_2 ne339 ne343 u329_4) hZ (ow hw 29 rfl) (ow hw 11 rfl) (by decide) (by decide)) q344a q344c (g := (mkF m 112 #[.val (.int p0), .val (.int p1), .val (.int 1), .val (.int 1), .val (.ref b288), .val (.ref b322)] [(.ref b322)])) rfl (by rw [hml]; rfl) (Steps.refl _) (argsL := []) (rest := []) (lenOf pd21 rfl) rfl (Nat.le_of_eq rfl) (hb hby at_112) (fun _ _ => ⟨rfl, rfl, (by decide : 6 + 0 ≤ _), (by decide : 47 + 0 ≤ _)⟩)
      dsimp only [Pt.U, Pt.locs, Pt.cells, Pt.slots] at X344 l344 y344 z344 st344 hQ344
      subst l344 y344 z344
      obtain ⟨rfl, N344q, K344, f344_0, f344_1, f344_2, f344_3, f344_4, f344_5⟩ := hQ344
      have N344 := Fr.app N329 N344q
      have hk345 := Nat.le_trans hk334 K344.1
      have Z346 : n0 ≤ T344.heap.size := Nat.le_trans Z335 K344.1
      obtain ⟨cq347, kq347, q347a, q347b, q347c⟩ := isOf hZ rfl f344_0
      obtain ⟨_, _, ⟨T347, L347, k347, n347⟩, -, X347, ⟨Lc347, hQ347, l347, y347, z347⟩, st347⟩ := X344.virtualBack hx (y := oM3) (z := oM3) hown (mvT hZ (ow hw 158 rfl)) (mvT hZ (ow hw 159 rfl)) (notFace_of_selects (args := #[]) (mvT hZ (ow hw 161 rfl))) (mvT hZ (ow hw 161 rfl)) (mvT hZ (ow hw 160 rfl)) (by decide) (backOf (W := 0) (rm29d1 l Z a0 hw [] b322 ka_330 ia_331 kk_332 ki_333 (-1 : Int32) (0 : Int32) T344.heap n0 Z346 f344_0 f344_1 f344_2 f344_3 f344_4 f344_5 gn_b322 u329_0 u329_2 ne339 ne343 u329_4) hZ (ow hw 162 rfl) (ow hw 11 rfl) (by decide) (by decide)) q347a q347c (g := (mkF m 122 #[.val (.int p0), .val (.int p1), .val (.int 1), .val (.int 1), .val (.ref b288), .val (.ref b322)] [(.ref b322)])) rfl (by rw [hml]; rfl) (Steps.refl _) (argsL := []) (rest := []) (lenOf pd21 rfl) rfl (Nat.le_of_eq rfl) (hb hby at_122) (fun _ _ => ⟨rfl, rfl, (by decide : 6 + 0 ≤ _), (by decide : 47 + 0 ≤ _)⟩)
      dsimp only [Pt.U, Pt.locs, Pt.cells, Pt.slots] at X347 l347 y347 z347 st347 hQ347
      subst l347 y347 z347
      obtain ⟨rfl, N347q, K347, f347_0⟩ := hQ347
      have N347 := Fr.app N344 N347q
      have hk348 := Nat.le_trans hk345 K347.1
      have Z349 : n0 ≤ T347.heap.size := Nat.le_trans Z346 K347.1
      have ff350 : Arv Z T347.heap ia_331 ki_333 .int (16 : Int32) [(.int 0), (.int 0)] (.int 0) := by have q := f347_0; rw [show ((-1 : Int32) + (1 : Int32)) = (0 : Int32) from by decide] at q; exact q
      have fa351 := (f344_0.keep K347)
      have fa352 := (f344_1.keep K347 (ninS ne343 nin0))
      have fa353 := (f344_2.keep K347 (ninS ne343 nin0))
      have fa354 := (f344_3.keep K347 (ninS ne343 nin0))
      have fa355 := (f344_4.keep K347 (ninS u329_4 nin0))
      obtain ⟨cq356, kq356, q356a, q356b, q356c⟩ := isOf hZ rfl fa351
      obtain ⟨_, _, ⟨T356, L356, k356, n356⟩, -, X356, ⟨Lc356, hQ356, l356, y356, z356⟩, st356⟩ := X347.virtualBack hx (y := oM2) (z := oM2) hown (mvT hZ (ow hw 25 rfl)) (mvT hZ (ow hw 26 rfl)) (notFace_of_selects (args := #[]) (mvT hZ (ow hw 28 rfl))) (mvT hZ (ow hw 28 rfl)) (mvT hZ (ow hw 27 rfl)) (by decide) (backOf (W := 0) (rm3d1 l Z a0 hw [] b322 ka_330 ia_331 kk_332 ki_333 (0 : Int32) (0 : Int32) T347.heap n0 Z349 fa351 fa352 fa353 fa354 fa355 ff350 gn_b322 u329_0 u329_2 ne339 ne343 u329_4) hZ (ow hw 29 rfl) (ow hw 11 rfl) (by decide) (by decide)) q356a q356c (g := (mkF m 137 #[.val (.int p0), .val (.int p1), .val (.int 1), .val (.int 1), .val (.ref b288), .val (.ref b322)] [(.ref b322)])) rfl (by rw [hml]; rfl) (Steps.refl _) (argsL := []) (rest := []) (lenOf pd21 rfl) rfl (Nat.le_of_eq rfl) (hb hby at_137) (fun _ _ => ⟨rfl, rfl, (by decide : 6 + 0 ≤ _), (by decide : 47 + 0 ≤ _)⟩)
      dsimp only [Pt.U, Pt.locs, Pt.cells, Pt.slots] at X356 l356 y356 z356 st356 hQ356
      subst l356 y356 z356
      obtain ⟨rfl, N356q, K356, f356_0, f356_1, f356_2, f356_3, f356_4, f356_5⟩ := hQ356
      have N356 := Fr.app N347 N356q
      have hk357 := Nat.le_trans hk348 K356.1
      have Z358 : n0 ≤ T356.heap.size := Nat.le_trans Z349 K356.1
      obtain ⟨cq359, kq359, q359a, q359b, q359c⟩ := isOf hZ rfl f356_0
      obtain ⟨_, _, ⟨T359, L359, k359, n359⟩, -, X359, ⟨Lc359, hQ359, l359, y359, z359⟩, st359⟩ := X356.virtualBack hx (y := oM3) (z := oM3) hown (mvT hZ (ow hw 158 rfl)) (mvT hZ (ow hw 159 rfl)) (notFace_of_selects (args := #[]) (mvT hZ (ow hw 161 rfl))) (mvT hZ (ow hw 161 rfl)) (mvT hZ (ow hw 160 rfl)) (by decide) (backOf (W := 0) (rm29d2 l Z a0 hw [] b322 ka_330 ia_331 kk_332 ki_333 (0 : Int32) (-1 : Int32) T356.heap n0 Z358 f356_0 f356_1 f356_2 f356_3 f356_4 f356_5 gn_b322 u329_0 u329_2 ne339 ne343 u329_4) hZ (ow hw 162 rfl) (ow hw 11 rfl) (by decide) (by decide)) q359a q359c (g := (mkF m 147 #[.val (.int p0), .val (.int p1), .val (.int 1), .val (.int 1), .val (.ref b288), .val (.ref b322)] [(.ref b322)])) rfl (by rw [hml]; rfl) (Steps.refl _) (argsL := []) (rest := []) (lenOf pd21 rfl) rfl (Nat.le_of_eq rfl) (hb hby at_147) (fun _ _ => ⟨rfl, rfl, (by decide : 6 + 0 ≤ _), (by decide : 47 + 0 ≤ _)⟩)
      dsimp only [Pt.U, Pt.locs, Pt.cells, Pt.slots] at X359 l359 y359 z359 st359 hQ359
      subst l359 y359 z359
      obtain ⟨rfl, N359q, K359, f359_0⟩ := hQ359
      have N359 := Fr.app N356 N359q
      have hk360 := Nat.le_trans hk357 K359.1
      have Z361 : n0 ≤ T359.heap.size := Nat.le_trans Z358 K359.1
      have ff362 : Arv Z T359.heap ia_331 ki_333 .int (16 : Int32) [(.int 0), (.int 0)] (.int 0) := by have q := f359_0; rw [show ((-1 : Int32) + (1 : Int32)) = (0 : Int32) from by decide] at q; exact q
      have fa363 := (f356_0.keep K359)
      have fa364 := (f356_1.keep K359 (ninS ne343 nin0))
      have fa365 := (f356_2.keep K359 (ninS ne343 nin0))
      have fa366 := (f356_3.keep K359 (ninS ne343 nin0))
      have fa367 := (f356_4.keep K359 (ninS u329_4 nin0))
      have fa368 := (((((((fa314.keep K315 (allS (P := fun x => n0 ≤ x) gn_b288 all0)).ext E322).keep K329 (allS (P := fun x => n0 ≤ x) gn_b322 all0)).keep K344 (allS (P := fun x => n0 ≤ x) gn_b322 (allS (P := fun x => n0 ≤ x) u329_0 (allS (P := fun x => n0 ≤ x) u329_2 all0)))).keep K347 (allS (P := fun x => n0 ≤ x) u329_2 all0)).keep K356 (allS (P := fun x => n0 ≤ x) gn_b322 (allS (P := fun x => n0 ≤ x) u329_0 (allS (P := fun x => n0 ≤ x) u329_2 all0)))).keep K359 (allS (P := fun x => n0 ≤ x) u329_2 all0))
      obtain ⟨cq369, kq369, q369a, q369b, q369c⟩ := isOf hZ rfl fa363
      obtain ⟨_, _, ⟨T369, L369, k369, n369⟩, -, X369, ⟨Lc369, hQ369, l369, y369, z369⟩, st369⟩ := X359.virtualBack hx (y := oM28) (z := oM28) hown (mvT hZ (ow hw 36 rfl)) (mvT hZ (ow hw 37 rfl)) (notFace_of_selects (args := #[]) (mvT hZ (ow hw 39 rfl))) (mvT hZ (ow hw 39 rfl)) (mvT hZ (ow hw 38 rfl)) (by decide) (backOf (W := 0) (rm5_2 l Z a0 hw [] b322 ka_330 ia_331 kk_332 ki_333 cs da cd (0 : Int32) (0 : Int32) (48 : Int32) (48 : Int32) T359.heap n0 Z361 fa363 fa364 fa365 fa366 fa367 ff362 Cs (by first | assumption | decide | omega) fa368 Dd Da (by first | assumption | decide | omega) (by first | assumption | decide | omega) (by first | assumption | decide | omega) (by first | assumption | decide | omega) (by first | assumption | decide | omega) (by first | assumption | decide | omega) (by first | assumption | decide | omega)) hZ (ow hw 40 rfl) (ow hw 11 rfl) (by decide) (by decide)) q369a q369c (g := (mkF m 162 #[.val (.int p0), .val (.int p1), .val (.int 1), .val (.int 1), .val (.ref b288), .val (.ref b322)] [(.ref b322)])) rfl (by rw [hml]; rfl) (Steps.refl _) (argsL := []) (rest := []) (lenOf pd22 rfl) rfl (Nat.le_of_eq rfl) (hb hby at_162) (fun _ _ => ⟨rfl, rfl, (by decide : 6 + 4 ≤ _), (by decide : 47 + 28 ≤ _)⟩)
      dsimp only [Pt.U, Pt.locs, Pt.cells, Pt.slots] at X369 l369 y369 z369 st369 hQ369
      subst l369 y369 z369
      obtain ⟨sa_370, vb_371, kb_372, rfl, N369q, K369, u369_0, u369_1, u369_2, u369_3, f369_0, f369_1, f369_2, f369_3⟩ := hQ369
      have N369 := Fr.app N359 N369q
      have hk373 := Nat.le_trans hk360 K369.1
      have Z374 : n0 ≤ T369.heap.size := Nat.le_trans Z361 K369.1
      have ne375 : b288 ≠ sa_370 := Nat.ne_of_lt (Nat.lt_of_lt_of_le ((((((f315_0.ext E322).keep K329).keep K344).keep K347).keep K356).keep K359).lt u369_1)
      have ne376 : b291 ≠ sa_370 := Nat.ne_of_lt (Nat.lt_of_lt_of_le ((((((fa324.ext E322).keep K329 (ninS ne325 nin0)).keep K344 (ninS ne325 (ninS ne337 (ninS ne341 nin0)))).keep K347 (ninS ne341 nin0)).keep K356 (ninS ne325 (ninS ne337 (ninS ne341 nin0)))).keep K359 (ninS ne341 nin0)).lt u369_1)
      have ne377 : vb_316 ≠ sa_370 := Nat.ne_of_lt (Nat.lt_of_lt_of_le ((((((f315_3.ext E322).keep K329 (ninS ne326 nin0)).keep K344 (ninS ne326 (ninS ne338 (ninS ne342 nin0)))).keep K347 (ninS ne342 nin0)).keep K356 (ninS ne326 (ninS ne338 (ninS ne342 nin0)))).keep K359 (ninS ne342 nin0)).lt u369_1)
      have ne378 : b322 ≠ sa_370 := Nat.ne_of_lt (Nat.lt_of_lt_of_le fa363.lt u369_1)
      have ne379 : ka_330 ≠ sa_370 := Nat.ne_of_lt (Nat.lt_of_lt_of_le fa367.lt u369_1)
      have ne380 : ia_331 ≠ sa_370 := Nat.ne_of_lt (Nat.lt_of_lt_of_le ff362.lt u369_1)
      have ne381 : b288 ≠ vb_371 := Nat.ne_of_lt (Nat.lt_of_lt_of_le ((((((f315_0.ext E322).keep K329).keep K344).keep K347).keep K356).keep K359).lt u369_3)
      have ne382 : b291 ≠ vb_371 := Nat.ne_of_lt (Nat.lt_of_lt_of_le ((((((fa324.ext E322).keep K329 (ninS ne325 nin0)).keep K344 (ninS ne325 (ninS ne337 (ninS ne341 nin0)))).keep K347 (ninS ne341 nin0)).keep K356 (ninS ne325 (ninS ne337 (ninS ne341 nin0)))).keep K359 (ninS ne341 nin0)).lt u369_3)
      have ne383 : vb_316 ≠ vb_371 := Nat.ne_of_lt (Nat.lt_of_lt_of_le ((((((f315_3.ext E322).keep K329 (ninS ne326 nin0)).keep K344 (ninS ne326 (ninS ne338 (ninS ne342 nin0)))).keep K347 (ninS ne342 nin0)).keep K356 (ninS ne326 (ninS ne338 (ninS ne342 nin0)))).keep K359 (ninS ne342 nin0)).lt u369_3)
      have ne384 : b322 ≠ vb_371 := Nat.ne_of_lt (Nat.lt_of_lt_of_le fa363.lt u369_3)
      have ne385 : ka_330 ≠ vb_371 := Nat.ne_of_lt (Nat.lt_of_lt_of_le fa367.lt u369_3)
      have ne386 : ia_331 ≠ vb_371 := Nat.ne_of_lt (Nat.lt_of_lt_of_le ff362.lt u369_3)
      have fa387 := (((((((f315_0.ext E322).keep K329).keep K344).keep K347).keep K356).keep K359).keep K369)
      have fa388 := (((((((f315_1.ext E322).keep K329 (ninS ne323 nin0)).keep K344 (ninS ne323 (ninS ne336 (ninS ne340 nin0)))).keep K347 (ninS ne340 nin0)).keep K356 (ninS ne323 (ninS ne336 (ninS ne340 nin0)))).keep K359 (ninS ne340 nin0)).keep K369 nin0)
      have fa389 := (((((((f315_2.ext E322).keep K329 (ninS ne323 nin0)).keep K344 (ninS ne323 (ninS ne336 (ninS ne340 nin0)))).keep K347 (ninS ne340 nin0)).keep K356 (ninS ne323 (ninS ne336 (ninS ne340 nin0)))).keep K359 (ninS ne340 nin0)).keep K369 nin0)
      have fa390 := (((((((f315_3.ext E322).keep K329 (ninS ne326 nin0)).keep K344 (ninS ne326 (ninS ne338 (ninS ne342 nin0)))).keep K347 (ninS ne342 nin0)).keep K356 (ninS ne326 (ninS ne338 (ninS ne342 nin0)))).keep K359 (ninS ne342 nin0)).keep K369 nin0)
      have fa391 := (fa368.keep K369 all0)
      obtain ⟨cq392, kq392, q392a, q392b, q392c⟩ := isOf hZ rfl f369_0
      obtain ⟨_, _, ⟨T392, L392, k392, n392⟩, -, X392, ⟨Lc392, hQ392, l392, y392, z392⟩, st392⟩ := X369.virtualBack hx (y := oM30) (z := oM30) hown (mvT hZ (ow hw 114 rfl)) (mvT hZ (ow hw 115 rfl)) (notFace_of_selects (args := #[]) (mvT hZ (ow hw 117 rfl))) (mvT hZ (ow hw 117 rfl)) (mvT hZ (ow hw 116 rfl)) (by decide) (backOf (W := 0) (rm19n4 l Z a0 hw [] sa_370 b288 vb_371 kb_372 vb_316 kb_317 (47 : Int32) (48 : Int32) (47 : Int32) (48 : Int32) cs T369.heap n0 Z374 f369_0 f369_1 f369_2 f369_3 fa387 fa388 fa389 fa390 (Ne.symm ne375) Cs (by first | assumption | decide | omega) fa391) hZ (ow hw 118 rfl) (ow hw 2 rfl) (by decide) (by decide)) q392a q392c (g := (mkF m 167 #[.val (.int p0), .val (.int p1), .val (.int 1), .val (.int 1), .val (.ref b288), .val (.ref b322)] [(.ref b288), (.ref sa_370)])) rfl (by rw [hml]; rfl) (Steps.refl _) (argsL := [(.ref b288)]) (rest := []) (lenOf pd32 rfl) rfl (Nat.le_of_eq rfl) (hb hby at_167) (fun _ _ => ⟨rfl, rfl, (by decide : 10 + 0 ≤ _), (by decide : 75 + 0 ≤ _)⟩)
      dsimp only [Pt.U, Pt.locs, Pt.cells, Pt.slots] at X392 l392 y392 z392 st392 hQ392
      subst l392 y392 z392
      obtain ⟨rfl, N392q, e392⟩ := hQ392
      have N392 := Fr.app N369 N392q
      have fa393 := (fa363.keep K369)
      have fa394 := (fa365.keep K369 nin0)
      have fa395 := (fa366.keep K369 nin0)
      have fa396 := (ff362.keep K369 nin0)
      obtain ⟨cq397, kq397, q397a, q397b, q397c⟩ := isOf hZ e392 fa393
      obtain ⟨_, _, ⟨T397, L397, k397, n397⟩, -, X397, ⟨Lc397, hQ397, l397, y397, z397⟩, st397⟩ := X392.virtualBack hx (y := oM6) (z := oM6) hown (mvT hZ (ow hw 125 rfl)) (mvT hZ (ow hw 126 rfl)) (notFace_of_selects (args := #[]) (mvT hZ (ow hw 128 rfl))) (mvT hZ (ow hw 128 rfl)) (mvT hZ (ow hw 127 rfl)) (by decide) (backOf (W := 0) (rm21 l Z a0 hw [] b322 ia_331 ki_333 (0 : Int32) (0 : Int32) T369.heap n0 Z374 fa393 fa394 fa395 fa396 (by first | assumption | decide | omega) (by first | assumption | decide | omega)) hZ (ow hw 129 rfl) (ow hw 11 rfl) (by decide) (by decide)) q397a q397c (g := (mkF m 175 #[.val (.int p0), .val (.int p1), .val (.int 1), .val (.int 1), .val (.ref b288), .val (.ref b322)] [(.ref b322)])) rfl (by rw [hml]; rfl) (Steps.refl _) (argsL := []) (rest := []) (lenOf pd2 rfl) rfl (Nat.le_of_eq rfl) (hb hby at_175) (fun _ _ => ⟨rfl, e392, (by decide : 10 + 0 ≤ _), (by decide : 75 + 0 ≤ _)⟩)
      dsimp only [Pt.U, Pt.locs, Pt.cells, Pt.slots] at X397 l397 y397 z397 st397 hQ397
      subst l397 y397 z397
      obtain ⟨rfl, N397q, e397⟩ := hQ397
      have N397 := Fr.app N392 N397q
      obtain ⟨cq398, kq398, q398a, q398b, q398c⟩ := isOf hZ e397 fa393
      obtain ⟨_, _, ⟨T398, L398, k398, n398⟩, -, X398, ⟨Lc398, hQ398, l398, y398, z398⟩, st398⟩ := X397.virtualBack hx (y := oM4) (z := oM4) hown (mvT hZ (ow hw 135 rfl)) (mvT hZ (ow hw 136 rfl)) (notFace_of_selects (args := #[]) (mvT hZ (ow hw 138 rfl))) (mvT hZ (ow hw 138 rfl)) (mvT hZ (ow hw 137 rfl)) (by decide) (backOf (W := 0) (rm23 l Z a0 hw [] b322 T369.heap n0 Z374 fa395) hZ (ow hw 139 rfl) (ow hw 11 rfl) (by decide) (by decide)) q398a q398c (g := (mkF m 192 #[.val (.int p0), .val (.int p1), .val (.int 1), .val (.int 1), .val (.ref b288), .val (.ref b322)] [(.ref b322)])) rfl (by rw [hml]; rfl) (Steps.refl _) (argsL := []) (rest := []) (lenOf pd12 rfl) rfl (Nat.le_of_eq rfl) (hb hby at_192) (fun _ _ => ⟨rfl, e397, (by decide : 10 + 0 ≤ _), (by decide : 75 + 0 ≤ _)⟩)
      dsimp only [Pt.U, Pt.locs, Pt.cells, Pt.slots] at X398 l398 y398 z398 st398 hQ398
      subst l398 y398 z398
      obtain ⟨rfl, N398q, e398⟩ := hQ398
      have N398 := Fr.app N397 N398q
      obtain ⟨fsZ, hrZ, hrun, hended, hRE⟩ := X398.leaveW hS0 (by rw [e398]; exact hk373) (v := some (.int 1)) (fun h => by rw [Bd.returns] at h; cases h)
      refine ⟨_, _, pre1 _ ?_, hrun, hended, _, _, rfl, ?_, hRE.1, hRE.2.1, hRE.2.2.1, hRE.2.2.2.mono (by decide) (by decide)⟩
      · show Steps _ _ _ (s₁.setTop (mkF m 14 #[.val (.int p0), .val (.int p1), .val (.int 1), .val (.int 1), .unset, .unset] [])) _
        refine XS.iloadN X0.here hx rfl (hb hby at_14) rfl  ?_
        refine XS.ifYes X0.here hx rfl (pc0 := 15) (pc' := 25) rfl (hb hby at_15) rfl ((if0 _ _).trans (feq (by decide)).2) (by decide) (by decide) ?_
        refine XS.iloadN X0.here hx rfl (hb hby at_25) rfl  ?_
        refine XS.ifYes X0.here hx rfl (pc0 := 26) (pc' := 59) rfl (hb hby at_26) rfl ((if0 _ _).trans (feq (by decide)).2) (by decide) (by decide) ?_
        show Steps _ _ _ (s₁.setTop (mkF m 59 #[.val (.int p0), .val (.int p1), .val (.int 1), .val (.int 1), .unset, .unset] [])) _
        refine st288 _ ?_
        refine XS.dup X288.here hx rfl (hb hby at_62) rfl rfl ?_
        refine XS.iconst X288.here hx rfl (hb hby at_63) ?_
        show Steps _ _ _ (T288.setTop (mkF m 64 #[.val (.int p0), .val (.int p1), .val (.int 1), .val (.int 1), .unset, .unset] [(.int 4), (.ref b288), (.ref b288)])) _
        refine st291 _ ?_
        refine XS.dup X291.here hx rfl (hb hby at_66) rfl rfl ?_
        refine XS.iconst X291.here hx rfl (hb hby at_67) ?_
        refine XS.bipush X291.here hx rfl (hb hby at_68) ?_
        show Steps _ _ _ (T291.setTop (mkF m 70 #[.val (.int p0), .val (.int p1), .val (.int 1), .val (.int 1), .unset, .unset] [(.int 47), (.int 0), (.ref b291), (.ref b291), (.ref b288), (.ref b288)])) _
        refine st296 _ ?_
        refine XS.dup X296.here hx rfl (hb hby at_71) rfl rfl ?_
        refine XS.iconst X296.here hx rfl (hb hby at_72) ?_
        refine XS.bipush X296.here hx rfl (hb hby at_73) ?_
        refine XS.iloadN X296.here hx rfl (hb hby at_75) rfl  ?_
        refine XS.iadd X296.here hx rfl (hb hby at_76) rfl ?_
        show Steps _ _ _ (T296.setTop (mkF m 77 #[.val (.int p0), .val (.int p1), .val (.int 1), .val (.int 1), .unset, .unset] [(.int ((48 : Int32) + (1 : Int32))), (.int 1), (.ref b291), (.ref b291), (.ref b288), (.ref b288)])) _
        rw [show ((48 : Int32) + (1 : Int32)) = (49 : Int32) from by decide]
        show Steps _ _ _ (T296.setTop (mkF m 77 #[.val (.int p0), .val (.int p1), .val (.int 1), .val (.int 1), .unset, .unset] [(.int 49), (.int 1), (.ref b291), (.ref b291), (.ref b288), (.ref b288)])) _
        refine XS.iconst X296.here hx rfl (hb hby at_77) ?_
        refine XS.isub X296.here hx rfl (hb hby at_78) rfl ?_
        show Steps _ _ _ (T296.setTop (mkF m 79 #[.val (.int p0), .val (.int p1), .val (.int 1), .val (.int 1), .unset, .unset] [(.int ((49 : Int32) - (1 : Int32))), (.int 1), (.ref b291), (.ref b291), (.ref b288), (.ref b288)])) _
        rw [show ((49 : Int32) - (1 : Int32)) = (48 : Int32) from by decide]
        show Steps _ _ _ (T296.setTop (mkF m 79 #[.val (.int p0), .val (.int p1), .val (.int 1), .val (.int 1), .unset, .unset] [(.int 48), (.int 1), (.ref b291), (.ref b291), (.ref b288), (.ref b288)])) _
        refine XS.i2c X296.here hx rfl (hb hby at_79) rfl ?_
        show Steps _ _ _ (T296.setTop (mkF m 80 #[.val (.int p0), .val (.int p1), .val (.int 1), .val (.int 1), .unset, .unset] [(.int ((48 : Int32).toUInt32.toUInt16.toUInt32.toInt32)), (.int 1), (.ref b291), (.ref b291), (.ref b288), (.ref b288)])) _
        rw [show ((48 : Int32).toUInt32.toUInt16.toUInt32.toInt32) = (48 : Int32) from by decide]
        show Steps _ _ _ (T296.setTop (mkF m 80 #[.val (.int p0), .val (.int p1), .val (.int 1), .val (.int 1), .unset, .unset] [(.int 48), (.int 1), (.ref b291), (.ref b291), (.ref b288), (.ref b288)])) _
        refine st300 _ ?_
        refine XS.dup X300.here hx rfl (hb hby at_81) rfl rfl ?_
        refine XS.iconst X300.here hx rfl (hb hby at_82) ?_
        refine XS.bipush X300.here hx rfl (hb hby at_83) ?_
        show Steps _ _ _ (T300.setTop (mkF m 85 #[.val (.int p0), .val (.int p1), .val (.int 1), .val (.int 1), .unset, .unset] [(.int 47), (.int 2), (.ref b291), (.ref b291), (.ref b288), (.ref b288)])) _
        refine st304 _ ?_
        refine XS.dup X304.here hx rfl (hb hby at_86) rfl rfl ?_
        refine XS.iconst X304.here hx rfl (hb hby at_87) ?_
        refine XS.bipush X304.here hx rfl (hb hby at_88) ?_
        refine XS.iloadN X304.here hx rfl (hb hby at_90) rfl  ?_
        refine XS.iadd X304.here hx rfl (hb hby at_91) rfl ?_
        show Steps _ _ _ (T304.setTop (mkF m 92 #[.val (.int p0), .val (.int p1), .val (.int 1), .val (.int 1), .unset, .unset] [(.int ((48 : Int32) + (1 : Int32))), (.int 3), (.ref b291), (.ref b291), (.ref b288), (.ref b288)])) _
        rw [show ((48 : Int32) + (1 : Int32)) = (49 : Int32) from by decide]
        show Steps _ _ _ (T304.setTop (mkF m 92 #[.val (.int p0), .val (.int p1), .val (.int 1), .val (.int 1), .unset, .unset] [(.int 49), (.int 3), (.ref b291), (.ref b291), (.ref b288), (.ref b288)])) _
        refine XS.iconst X304.here hx rfl (hb hby at_92) ?_
        refine XS.isub X304.here hx rfl (hb hby at_93) rfl ?_
        show Steps _ _ _ (T304.setTop (mkF m 94 #[.val (.int p0), .val (.int p1), .val (.int 1), .val (.int 1), .unset, .unset] [(.int ((49 : Int32) - (1 : Int32))), (.int 3), (.ref b291), (.ref b291), (.ref b288), (.ref b288)])) _
        rw [show ((49 : Int32) - (1 : Int32)) = (48 : Int32) from by decide]
        show Steps _ _ _ (T304.setTop (mkF m 94 #[.val (.int p0), .val (.int p1), .val (.int 1), .val (.int 1), .unset, .unset] [(.int 48), (.int 3), (.ref b291), (.ref b291), (.ref b288), (.ref b288)])) _
        refine XS.i2c X304.here hx rfl (hb hby at_94) rfl ?_
        show Steps _ _ _ (T304.setTop (mkF m 95 #[.val (.int p0), .val (.int p1), .val (.int 1), .val (.int 1), .unset, .unset] [(.int ((48 : Int32).toUInt32.toUInt16.toUInt32.toInt32)), (.int 3), (.ref b291), (.ref b291), (.ref b288), (.ref b288)])) _
        rw [show ((48 : Int32).toUInt32.toUInt16.toUInt32.toInt32) = (48 : Int32) from by decide]
        show Steps _ _ _ (T304.setTop (mkF m 95 #[.val (.int p0), .val (.int p1), .val (.int 1), .val (.int 1), .unset, .unset] [(.int 48), (.int 3), (.ref b291), (.ref b291), (.ref b288), (.ref b288)])) _
        refine st308 _ ?_
        show Steps _ _ _ (T308.setTop (mkF m 96 #[.val (.int p0), .val (.int p1), .val (.int 1), .val (.int 1), .unset, .unset] [(.ref b291), (.ref b288), (.ref b288)])) _
        refine st315.trans ?_
        refine XS.astore X315.here hx rfl (hb hby at_99) rfl rfl (l' := #[.val (.int p0), .val (.int p1), .val (.int 1), .val (.int 1), .val (.ref b288), .unset]) rfl ?_
        show Steps _ _ _ (T315.setTop (mkF m 101 #[.val (.int p0), .val (.int p1), .val (.int 1), .val (.int 1), .val (.ref b288), .unset] [])) _
        refine st322 _ ?_
        refine XS.dup X322.here hx rfl (hb hby at_104) rfl rfl ?_
        show Steps _ _ _ (T322.setTop (mkF m 105 #[.val (.int p0), .val (.int p1), .val (.int 1), .val (.int 1), .val (.ref b288), .unset] [(.ref b322), (.ref b322)])) _
        refine st329.trans ?_
        refine XS.astore X329.here hx rfl (hb hby at_108) rfl rfl (l' := #[.val (.int p0), .val (.int p1), .val (.int 1), .val (.int 1), .val (.ref b288), .val (.ref b322)]) rfl ?_
        refine XS.aload X329.here hx rfl (hb hby at_110) rfl rfl ?_
        show Steps _ _ _ (T329.setTop (mkF m 112 #[.val (.int p0), .val (.int p1), .val (.int 1), .val (.int 1), .val (.ref b288), .val (.ref b322)] [(.ref b322)])) _
        refine st344.trans ?_
        refine XS.iloadN X344.here hx rfl (hb hby at_115) rfl  ?_
        refine XS.iconst X344.here hx rfl (hb hby at_116) ?_
        refine XS.icmpNo X344.here hx rfl (hb hby at_117) rfl (flt (by decide)).1 ?_
        refine XS.aload X344.here hx rfl (hb hby at_120) rfl rfl ?_
        show Steps _ _ _ (T344.setTop (mkF m 122 #[.val (.int p0), .val (.int p1), .val (.int 1), .val (.int 1), .val (.ref b288), .val (.ref b322)] [(.ref b322)])) _
        refine st347.trans ?_
        refine XS.iloadN X347.here hx rfl (hb hby at_125) rfl  ?_
        refine XS.iconst X347.here hx rfl (hb hby at_126) ?_
        refine XS.icmpYes X347.here hx rfl (pc0 := 127) (pc' := 135) rfl (hb hby at_127) rfl (tlt (by decide)).1 (by decide) (by decide) ?_
        refine XS.aload X347.here hx rfl (hb hby at_135) rfl rfl ?_
        show Steps _ _ _ (T347.setTop (mkF m 137 #[.val (.int p0), .val (.int p1), .val (.int 1), .val (.int 1), .val (.ref b288), .val (.ref b322)] [(.ref b322)])) _
        refine st356.trans ?_
        refine XS.iloadN X356.here hx rfl (hb hby at_140) rfl  ?_
        refine XS.iconst X356.here hx rfl (hb hby at_141) ?_
        refine XS.icmpNo X356.here hx rfl (hb hby at_142) rfl (flt (by decide)).1 ?_
        refine XS.aload X356.here hx rfl (hb hby at_145) rfl rfl ?_
        show Steps _ _ _ (T356.setTop (mkF m 147 #[.val (.int p0), .val (.int p1), .val (.int 1), .val (.int 1), .val (.ref b288), .val (.ref b322)] [(.ref b322)])) _
        refine st359.trans ?_
        refine XS.iloadN X359.here hx rfl (hb hby at_150) rfl  ?_
        refine XS.iconst X359.here hx rfl (hb hby at_151) ?_
        refine XS.icmpYes X359.here hx rfl (pc0 := 152) (pc' := 160) rfl (hb hby at_152) rfl (tlt (by decide)).1 (by decide) (by decide) ?_
        refine XS.aload X359.here hx rfl (hb hby at_160) rfl rfl ?_
        show Steps _ _ _ (T359.setTop (mkF m 162 #[.val (.int p0), .val (.int p1), .val (.int 1), .val (.int 1), .val (.ref b288), .val (.ref b322)] [(.ref b322)])) _
        refine st369.trans ?_
        refine XS.aload X369.here hx rfl (hb hby at_165) rfl rfl ?_
        show Steps _ _ _ (T369.setTop (mkF m 167 #[.val (.int p0), .val (.int p1), .val (.int 1), .val (.int 1), .val (.ref b288), .val (.ref b322)] [(.ref b288), (.ref sa_370)])) _
        refine st392.trans ?_
        refine XS.ifNo X392.here hx rfl (hb hby at_170) rfl ((if0 _ _).trans (feq (by decide)).1) ?_
        refine XS.aload X392.here hx rfl (hb hby at_173) rfl rfl ?_
        show Steps _ _ _ (T392.setTop (mkF m 175 #[.val (.int p0), .val (.int p1), .val (.int 1), .val (.int 1), .val (.ref b288), .val (.ref b322)] [(.ref b322)])) _
        refine st397.trans ?_
        refine XS.iloadN X397.here hx rfl (hb hby at_178) rfl  ?_
        refine XS.ifYes X397.here hx rfl (pc0 := 179) (pc' := 186) rfl (hb hby at_179) rfl ((if0 _ _).trans (feq (by decide)).2) (by decide) (by decide) ?_
        refine XS.iconst X397.here hx rfl (hb hby at_186) ?_
        refine XS.icmpNo X397.here hx rfl (hb hby at_187) rfl (teq (by decide)).2 ?_
        refine XS.aload X397.here hx rfl (hb hby at_190) rfl rfl ?_
        show Steps _ _ _ (T397.setTop (mkF m 192 #[.val (.int p0), .val (.int p1), .val (.int 1), .val (.int 1), .val (.ref b288), .val (.ref b322)] [(.ref b322)])) _
        refine st398.trans ?_
        refine XS.iconst X398.here hx rfl (hb hby at_195) ?_
        refine XS.icmpNo X398.here hx rfl (hb hby at_196) rfl (teq (by decide)).2 ?_
        refine XS.iconst X398.here hx rfl (hb hby at_199) ?_
        refine XS.goto X398.here hx rfl (pc0 := 200) (pc' := 204) rfl (hb hby at_200) (by decide) (by decide) ?_
        show Steps _ _ _ (T398.setTop (mkF m 204 #[.val (.int p0), .val (.int p1), .val (.int 1), .val (.int 1), .val (.ref b288), .val (.ref b322)] [(.int 1)])) _
        exact retN X398 hx (t := .boolean) Bd.returns (by simp) (hb hby at_204) hrZ
      · show Q0 Z p0 p1 cs da cd h0 n0 _ T398.heap _
        rw [e398]
        exact ⟨rfl, N398⟩
    ·  -- k2 = 2
      obtain ⟨T399, h399, X399, e399, E399, A399, D399, -, st399⟩ := newO X0 hx hZ hown (ow hw 140 rfl) (ow hw 3 rfl) (ow hw 2 rfl) e0 (g := (mkF m 59 #[.val (.int p0), .val (.int p1), .val (.int 1), .val (.int 2), .unset, .unset] [])) rfl (hb hby at_59) (by decide) (by decide)
      obtain ⟨b399, g399⟩ : ∃ z, z = h0.size := ⟨_, rfl⟩
      rw [← g399] at A399 D399 st399
      have gn_b399 : n0 ≤ b399 := Nat.le_trans Z0 (Nat.le_of_eq g399.symm)
      have hk400 := Nat.le_trans hk0 E399.1
      have Z401 : n0 ≤ h399.size := Nat.le_trans Z0 E399.1
      have F_value_b399 : Fld Z h399 b399 oS "value" "[B" .null := D399 (Or.inr (ow hw 5 rfl)) (ty := (.array .byte)) (by decide)
      have F_coder_b399 : Fld Z h399 b399 oS "coder" "B" (.int 0) := D399 (Or.inr (ow hw 6 rfl)) (ty := .byte) (by decide)
      obtain ⟨T402, h402, k402, X402, e402, E402, A402, st402⟩ := newP X399 hx hZ (ow hw 141 rfl) e399 (g := (mkF m 64 #[.val (.int p0), .val (.int p1), .val (.int 1), .val (.int 2), .unset, .unset] [(.int 4), (.ref b399), (.ref b399)])) rfl (hb hby at_64) rfl (by decide) (cap := 4) (by decide) (by decide) (by decide) (by decide)
      obtain ⟨b402, g402⟩ : ∃ z, z = h399.size := ⟨_, rfl⟩
      rw [← g402] at A402 st402
      have ne403 : b399 ≠ b402 := Nat.ne_of_lt (Nat.lt_of_lt_of_le A399.lt (Nat.le_of_eq g402.symm))
      have gn_b402 : n0 ≤ b402 := Nat.le_trans Z401 (Nat.le_of_eq g402.symm)
      have hk404 := Nat.le_trans hk400 E402.1
      have Z405 : n0 ≤ h402.size := Nat.le_trans Z401 E402.1
      have V402 : Arv Z h402 b402 k402 .char (4 : Int32) [(.int 0), (.int 0), (.int 0), (.int 0)] (.int 0) := (Arv.new A402 (by decide)).pad (pad_rep [] (.int 0) 4)
      obtain ⟨c406, Arc406, qc406, Sc406, Mc406, Hc406, Gc406⟩ := id V402
      have hinc406 : ¬ ((0 : Int32) < 0 ∨ c406.slots.size ≤ ((0 : Int32)).toNatClampNeg) := inb_of Sc406 ⟨by decide, by decide⟩
      obtain ⟨T407, h407, X407, e407, W407, st407⟩ := stC X402 hx hZ e402 Arc406 (j := (0 : Int32)) hinc406  (g := (mkF m 70 #[.val (.int p0), .val (.int p1), .val (.int 1), .val (.int 2), .unset, .unset] [(.int 47), (.int 0), (.ref b402), (.ref b402), (.ref b399), (.ref b399)])) rfl rfl (hb hby at_70)
      have V407 : Arv Z h407 b402 k402 .char (4 : Int32) [(.int 47), (.int 0), (.int 0), (.int 0)] (.int 0) := Arv.set Arc406 qc406 Sc406 Mc406 Hc406 Gc406 (fits_nar_char _) W407 0 rfl (Nat.le_of_ble_eq_true rfl)
      have hk408 := Nat.le_trans hk404 (Nat.le_of_eq W407.size.symm)
      have Z409 : n0 ≤ h407.size := Nat.le_trans Z405 (Nat.le_of_eq W407.size.symm)
      have N407 := Fr.snoc X407 N0 gn_b402
      obtain ⟨c410, Arc410, qc410, Sc410, Mc410, Hc410, Gc410⟩ := id V407
      have hinc410 : ¬ ((1 : Int32) < 0 ∨ c410.slots.size ≤ ((1 : Int32)).toNatClampNeg) := inb_of Sc410 ⟨by decide, by decide⟩
      obtain ⟨T411, h411, X411, e411, W411, st411⟩ := stC X407 hx hZ e407 Arc410 (j := (1 : Int32)) hinc410  (g := (mkF m 80 #[.val (.int p0), .val (.int p1), .val (.int 1), .val (.int 2), .unset, .unset] [(.int 48), (.int 1), (.ref b402), (.ref b402), (.ref b399), (.ref b399)])) rfl rfl (hb hby at_80)
      have V411 : Arv Z h411 b402 k402 .char (4 : Int32) [(.int 47), (.int 48), (.int 0), (.int 0)] (.int 0) := Arv.set Arc410 qc410 Sc410 Mc410 Hc410 Gc410 (fits_nar_char _) W411 1 rfl (Nat.le_of_ble_eq_true rfl)
      have hk412 := Nat.le_trans hk408 (Nat.le_of_eq W411.size.symm)
      have Z413 : n0 ≤ h411.size := Nat.le_trans Z409 (Nat.le_of_eq W411.size.symm)
      have N411 := Fr.snoc X411 N407 gn_b402
      obtain ⟨c414, Arc414, qc414, Sc414, Mc414, Hc414, Gc414⟩ := id V411
      have hinc414 : ¬ ((2 : Int32) < 0 ∨ c414.slots.size ≤ ((2 : Int32)).toNatClampNeg) := inb_of Sc414 ⟨by decide, by decide⟩
      obtain ⟨T415, h415, X415, e415, W415, st415⟩ := stC X411 hx hZ e411 Arc414 (j := (2 : Int32)) hinc414  (g := (mkF m 85 #[.val (.int p0), .val (.int p1), .val (.int 1), .val (.int 2), .unset, .unset] [(.int 47), (.int 2), (.ref b402), (.ref b402), (.ref b399), (.ref b399)])) rfl rfl (hb hby at_85)
      have V415 : Arv Z h415 b402 k402 .char (4 : Int32) [(.int 47), (.int 48), (.int 47), (.int 0)] (.int 0) := Arv.set Arc414 qc414 Sc414 Mc414 Hc414 Gc414 (fits_nar_char _) W415 2 rfl (Nat.le_of_ble_eq_true rfl)
      have hk416 := Nat.le_trans hk412 (Nat.le_of_eq W415.size.symm)
      have Z417 : n0 ≤ h415.size := Nat.le_trans Z413 (Nat.le_of_eq W415.size.symm)
      have N415 := Fr.snoc X415 N411 gn_b402
      obtain ⟨c418, Arc418, qc418, Sc418, Mc418, Hc418, Gc418⟩ := id V415
      have hinc418 : ¬ ((3 : Int32) < 0 ∨ c418.slots.size ≤ ((3 : Int32)).toNatClampNeg) := inb_of Sc418 ⟨by decide, by decide⟩
      obtain ⟨T419, h419, X419, e419, W419, st419⟩ := stC X415 hx hZ e415 Arc418 (j := (3 : Int32)) hinc418  (g := (mkF m 95 #[.val (.int p0), .val (.int p1), .val (.int 1), .val (.int 2), .unset, .unset] [(.int 49), (.int 3), (.ref b402), (.ref b402), (.ref b399), (.ref b399)])) rfl rfl (hb hby at_95)
      have V419 : Arv Z h419 b402 k402 .char (4 : Int32) [(.int 47), (.int 48), (.int 47), (.int 49)] (.int 0) := Arv.set Arc418 qc418 Sc418 Mc418 Hc418 Gc418 (fits_nar_char _) W419 3 rfl (Nat.le_of_ble_eq_true rfl)
      have hk420 := Nat.le_trans hk416 (Nat.le_of_eq W419.size.symm)
      have Z421 : n0 ≤ h419.size := Nat.le_trans Z417 (Nat.le_of_eq W419.size.symm)
      have N419 := Fr.snoc X419 N415 gn_b402
      have fa422 := (((((A399.ext E402).wr W407).wr W411).wr W415).wr W419)
      have fa423 := (((((F_coder_b399.ext E402).other W407 (Or.inl ne403)).other W411 (Or.inl ne403)).other W415 (Or.inl ne403)).other W419 (Or.inl ne403))
      have fa424 := (((((F_value_b399.ext E402).other W407 (Or.inl ne403)).other W411 (Or.inl ne403)).other W415 (Or.inl ne403)).other W419 (Or.inl ne403))
      have fa425 := ((((((Ox.ext E399).ext E402).wr W407 gn_b402).wr W411 gn_b402).wr W415 gn_b402).wr W419 gn_b402)
      obtain ⟨_, _, ⟨T426, L426, k426, n426⟩, -, X426, ⟨Lc426, hQ426, l426, y426, z426⟩, st426⟩ := X419.specialBack hx (y := oM35) rfl hown (mvT hZ (ow hw 142 rfl)) (mvT hZ (ow hw 143 rfl)) (mvT hZ (ow hw 144 rfl)) (by decide) (backOf (W := 1) (rm24n4 l Z a0 hw [] b399 b402 (.int 0) .null k402 (47 : Int32) (48 : Int32) (47 : Int32) (49 : Int32) cs h419 n0 Z421 fa422 fa423 fa424 gn_b399 V419 ne403 (by first | assumption | decide | omega) (by first | assumption | decide | omega) (by first | assumption | decide | omega) (by first | assumption | decide | omega) (by first | assumption | decide | omega) (by first | assumption | decide | omega) (by first | assumption | decide | omega) (by first | assumption | decide | omega) Cs (by first | assumption | decide | omega) fa425) hZ (ow hw 144 rfl) (ow hw 2 rfl) (by decide) (by decide)) (g := (mkF m 96 #[.val (.int p0), .val (.int p1), .val (.int 1), .val (.int 2), .unset, .unset] [(.ref b402), (.ref b399), (.ref b399)])) rfl (by rw [hml]; rfl) (Steps.refl _) (a := b399) (argsL := [(.ref b402)]) (rest := [(.ref b399)]) (lenOf pd33 rfl) rfl (Nat.le_of_eq rfl) (hb hby at_96) (fun _ _ => ⟨rfl, e419, (by decide : 2 + 1 ≤ _), (by decide : 8 + 4 ≤ _)⟩)
      dsimp only [Pt.U, Pt.locs, Pt.cells, Pt.slots] at X426 l426 y426 z426 st426 hQ426
      subst l426 y426 z426
      obtain ⟨vb_427, kb_428, rfl, N426q, K426, u426_0, u426_1, f426_0, f426_1, f426_2, f426_3⟩ := hQ426
      have N426 := Fr.app N419 N426q
      have hk429 := Nat.le_trans hk420 K426.1
      have Z430 : n0 ≤ T426.heap.size := Nat.le_trans Z421 K426.1
      have ne431 : b399 ≠ vb_427 := Nat.ne_of_lt (Nat.lt_of_lt_of_le fa422.lt u426_1)
      have ne432 : b402 ≠ vb_427 := Nat.ne_of_lt (Nat.lt_of_lt_of_le V419.lt u426_1)
      obtain ⟨T433, h433, X433, e433, E433, A433, D433, -, st433⟩ := newO X426 hx hZ hown (ow hw 9 rfl) (ow hw 10 rfl) (ow hw 11 rfl) rfl (g := (mkF m 101 #[.val (.int p0), .val (.int p1), .val (.int 1), .val (.int 2), .val (.ref b399), .unset] [])) rfl (hb hby at_101) (by decide) (by decide)
      obtain ⟨b433, g433⟩ : ∃ z, z = T426.heap.size := ⟨_, rfl⟩
      rw [← g433] at A433 D433 st433
      have ne434 : b399 ≠ b433 := Nat.ne_of_lt (Nat.lt_of_lt_of_le f426_0.lt (Nat.le_of_eq g433.symm))
      have fa435 := (V419.keep K426 (ninS (Ne.symm ne403) nin0))
      have ne436 : b402 ≠ b433 := Nat.ne_of_lt (Nat.lt_of_lt_of_le fa435.lt (Nat.le_of_eq g433.symm))
      have ne437 : vb_427 ≠ b433 := Nat.ne_of_lt (Nat.lt_of_lt_of_le f426_3.lt (Nat.le_of_eq g433.symm))
      have gn_b433 : n0 ≤ b433 := Nat.le_trans Z430 (Nat.le_of_eq g433.symm)
      have hk438 := Nat.le_trans hk429 E433.1
      have Z439 : n0 ≤ h433.size := Nat.le_trans Z430 E433.1
      have F_keys_b433 : Fld Z h433 b433 oJ "keys" "[Ljava/lang/String;" .null := D433 (Or.inl (ow hw 21 rfl)) (ty := (.array (.object oS))) (by decide)
      have F_indexes_b433 : Fld Z h433 b433 oJ "indexes" "[I" .null := D433 (Or.inl (ow hw 24 rfl)) (ty := (.array .int)) (by decide)
      have F_depth_b433 : Fld Z h433 b433 oJ "depth" "I" (.int 0) := D433 (Or.inl (ow hw 35 rfl)) (ty := .int) (by decide)
      obtain ⟨_, _, ⟨T440, L440, k440, n440⟩, -, X440, ⟨Lc440, hQ440, l440, y440, z440⟩, st440⟩ := X433.specialBack hx (y := oM0) rfl hown (mvT hZ (ow hw 12 rfl)) (mvT hZ (ow hw 13 rfl)) (mvT hZ (ow hw 14 rfl)) (by decide) (backOf (W := 1) (rm1 l Z a0 hw [] b433 .null .null h433 n0 Z439 A433 F_keys_b433 F_indexes_b433 F_depth_b433 gn_b433) hZ (ow hw 14 rfl) (ow hw 11 rfl) (by decide) (by decide)) (g := (mkF m 105 #[.val (.int p0), .val (.int p1), .val (.int 1), .val (.int 2), .val (.ref b399), .unset] [(.ref b433), (.ref b433)])) rfl (by rw [hml]; rfl) (Steps.refl _) (a := b433) (argsL := []) (rest := [(.ref b433)]) (lenOf pd21 rfl) rfl (Nat.le_of_eq rfl) (hb hby at_105) (fun _ _ => ⟨rfl, e433, (by decide : 4 + 2 ≤ _), (by decide : 15 + 32 ≤ _)⟩)
      dsimp only [Pt.U, Pt.locs, Pt.cells, Pt.slots] at X440 l440 y440 z440 st440 hQ440
      subst l440 y440 z440
      obtain ⟨ka_441, ia_442, kk_443, ki_444, rfl, N440q, K440, u440_0, u440_1, u440_2, u440_3, u440_4, f440_0, f440_1, f440_2, f440_3, f440_4, f440_5⟩ := hQ440
      have N440 := Fr.app N426 N440q
      have hk445 := Nat.le_trans hk438 K440.1
      have Z446 : n0 ≤ T440.heap.size := Nat.le_trans Z439 K440.1
      have ne447 : b399 ≠ ka_441 := Nat.ne_of_lt (Nat.lt_of_lt_of_le (f426_0.ext E433).lt u440_1)
      have ne448 : b402 ≠ ka_441 := Nat.ne_of_lt (Nat.lt_of_lt_of_le (fa435.ext E433).lt u440_1)
      have ne449 : vb_427 ≠ ka_441 := Nat.ne_of_lt (Nat.lt_of_lt_of_le (f426_3.ext E433).lt u440_1)
      have ne450 : b433 ≠ ka_441 := Nat.ne_of_lt (Nat.lt_of_lt_of_le A433.lt u440_1)
      have ne451 : b399 ≠ ia_442 := Nat.ne_of_lt (Nat.lt_of_lt_of_le (f426_0.ext E433).lt u440_3)
      have ne452 : b402 ≠ ia_442 := Nat.ne_of_lt (Nat.lt_of_lt_of_le (fa435.ext E433).lt u440_3)
      have ne453 : vb_427 ≠ ia_442 := Nat.ne_of_lt (Nat.lt_of_lt_of_le (f426_3.ext E433).lt u440_3)
      have ne454 : b433 ≠ ia_442 := Nat.ne_of_lt (Nat.lt_of_lt_of_le A433.lt u440_3)
      obtain ⟨cq455, kq455, q455a, q455b, q455c⟩ := isOf hZ rfl f440_0
      obtain ⟨_, _, ⟨T455, L455, k455, n455⟩, -, X455, ⟨Lc455, hQ455, l455, y455, z455⟩, st455⟩ := X440.virtualBack hx (y := oM2) (z := oM2) hown (mvT hZ (ow hw 25 rfl)) (mvT hZ (ow hw 26 rfl)) (notFace_of_selects (args := #[]) (mvT hZ (ow hw 28 rfl))) (mvT hZ (ow hw 28 rfl)) (mvT hZ (ow hw 27 rfl)) (by decide) (backOf (W := 0) (rm3d0 l Z a0 hw [] b433 ka_441 ia_442 kk_443 ki_444 (0 : Int32) (0 : Int32) T440.heap n0 Z446 f440_0 f440_1 f440_2 f440_3 f440_4 f440_5 gn_b433 u440_0 u440_2 ne450 ne454 u440_4) hZ (ow hw 29 rfl) (ow hw 11 rfl) (by decide) (by decide)) q455a q455c (g := (mkF m 112 #[.val (.int p0), .val (.int p1), .val (.int 1), .val (.int 2), .val (.ref b399), .val (.ref b433)] [(.ref b433)])) rfl (by rw [hml]; rfl) (Steps.refl _) (argsL := []) (rest := []) (lenOf pd21 rfl) rfl (Nat.le_of_eq rfl) (hb hby at_112) (fun _ _ => ⟨rfl, rfl, (by decide : 6 + 0 ≤ _), (by decide : 47 + 0 ≤ _)⟩)
      dsimp only [Pt.U, Pt.locs, Pt.cells, Pt.slots] at X455 l455 y455 z455 st455 hQ455
      subst l455 y455 z455
      obtain ⟨rfl, N455q, K455, f455_0, f455_1, f455_2, f455_3, f455_4, f455_5⟩ := hQ455
      have N455 := Fr.app N440 N455q
      have hk456 := Nat.le_trans hk445 K455.1
      have Z457 : n0 ≤ T455.heap.size := Nat.le_trans Z446 K455.1
      obtain ⟨cq458, kq458, q458a, q458b, q458c⟩ := isOf hZ rfl f455_0
      obtain ⟨_, _, ⟨T458, L458, k458, n458⟩, -, X458, ⟨Lc458, hQ458, l458, y458, z458⟩, st458⟩ := X455.virtualBack hx (y := oM3) (z := oM3) hown (mvT hZ (ow hw 158 rfl)) (mvT hZ (ow hw 159 rfl)) (notFace_of_selects (args := #[]) (mvT hZ (ow hw 161 rfl))) (mvT hZ (ow hw 161 rfl)) (mvT hZ (ow hw 160 rfl)) (by decide) (backOf (W := 0) (rm29d1 l Z a0 hw [] b433 ka_441 ia_442 kk_443 ki_444 (-1 : Int32) (0 : Int32) T455.heap n0 Z457 f455_0 f455_1 f455_2 f455_3 f455_4 f455_5 gn_b433 u440_0 u440_2 ne450 ne454 u440_4) hZ (ow hw 162 rfl) (ow hw 11 rfl) (by decide) (by decide)) q458a q458c (g := (mkF m 122 #[.val (.int p0), .val (.int p1), .val (.int 1), .val (.int 2), .val (.ref b399), .val (.ref b433)] [(.ref b433)])) rfl (by rw [hml]; rfl) (Steps.refl _) (argsL := []) (rest := []) (lenOf pd21 rfl) rfl (Nat.le_of_eq rfl) (hb hby at_122) (fun _ _ => ⟨rfl, rfl, (by decide : 6 + 0 ≤ _), (by decide : 47 + 0 ≤ _)⟩)
      dsimp only [Pt.U, Pt.locs, Pt.cells, Pt.slots] at X458 l458 y458 z458 st458 hQ458
      subst l458 y458 z458
      obtain ⟨rfl, N458q, K458, f458_0⟩ := hQ458
      have N458 := Fr.app N455 N458q
      have hk459 := Nat.le_trans hk456 K458.1
      have Z460 : n0 ≤ T458.heap.size := Nat.le_trans Z457 K458.1
      have ff461 : Arv Z T458.heap ia_442 ki_444 .int (16 : Int32) [(.int 0), (.int 0)] (.int 0) := by have q := f458_0; rw [show ((-1 : Int32) + (1 : Int32)) = (0 : Int32) from by decide] at q; exact q
      have fa462 := (f455_0.keep K458)
      have fa463 := (f455_1.keep K458 (ninS ne454 nin0))
      have fa464 := (f455_2.keep K458 (ninS ne454 nin0))
      have fa465 := (f455_3.keep K458 (ninS ne454 nin0))
      have fa466 := (f455_4.keep K458 (ninS u440_4 nin0))
      obtain ⟨cq467, kq467, q467a, q467b, q467c⟩ := isOf hZ rfl fa462
      obtain ⟨_, _, ⟨T467, L467, k467, n467⟩, -, X467, ⟨Lc467, hQ467, l467, y467, z467⟩, st467⟩ := X458.virtualBack hx (y := oM2) (z := oM2) hown (mvT hZ (ow hw 25 rfl)) (mvT hZ (ow hw 26 rfl)) (notFace_of_selects (args := #[]) (mvT hZ (ow hw 28 rfl))) (mvT hZ (ow hw 28 rfl)) (mvT hZ (ow hw 27 rfl)) (by decide) (backOf (W := 0) (rm3d1 l Z a0 hw [] b433 ka_441 ia_442 kk_443 ki_444 (0 : Int32) (0 : Int32) T458.heap n0 Z460 fa462 fa463 fa464 fa465 fa466 ff461 gn_b433 u440_0 u440_2 ne450 ne454 u440_4) hZ (ow hw 29 rfl) (ow hw 11 rfl) (by decide) (by decide)) q467a q467c (g := (mkF m 137 #[.val (.int p0), .val (.int p1), .val (.int 1), .val (.int 2), .val (.ref b399), .val (.ref b433)] [(.ref b433)])) rfl (by rw [hml]; rfl) (Steps.refl _) (argsL := []) (rest := []) (lenOf pd21 rfl) rfl (Nat.le_of_eq rfl) (hb hby at_137) (fun _ _ => ⟨rfl, rfl, (by decide : 6 + 0 ≤ _), (by decide : 47 + 0 ≤ _)⟩)
      dsimp only [Pt.U, Pt.locs, Pt.cells, Pt.slots] at X467 l467 y467 z467 st467 hQ467
      subst l467 y467 z467
      obtain ⟨rfl, N467q, K467, f467_0, f467_1, f467_2, f467_3, f467_4, f467_5⟩ := hQ467
      have N467 := Fr.app N458 N467q
      have hk468 := Nat.le_trans hk459 K467.1
      have Z469 : n0 ≤ T467.heap.size := Nat.le_trans Z460 K467.1
      obtain ⟨cq470, kq470, q470a, q470b, q470c⟩ := isOf hZ rfl f467_0
      obtain ⟨_, _, ⟨T470, L470, k470, n470⟩, -, X470, ⟨Lc470, hQ470, l470, y470, z470⟩, st470⟩ := X467.virtualBack hx (y := oM3) (z := oM3) hown (mvT hZ (ow hw 158 rfl)) (mvT hZ (ow hw 159 rfl)) (notFace_of_selects (args := #[]) (mvT hZ (ow hw 161 rfl))) (mvT hZ (ow hw 161 rfl)) (mvT hZ (ow hw 160 rfl)) (by decide) (backOf (W := 0) (rm29d2 l Z a0 hw [] b433 ka_441 ia_442 kk_443 ki_444 (0 : Int32) (-1 : Int32) T467.heap n0 Z469 f467_0 f467_1 f467_2 f467_3 f467_4 f467_5 gn_b433 u440_0 u440_2 ne450 ne454 u440_4) hZ (ow hw 162 rfl) (ow hw 11 rfl) (by decide) (by decide)) q470a q470c (g := (mkF m 147 #[.val (.int p0), .val (.int p1), .val (.int 1), .val (.int 2), .val (.ref b399), .val (.ref b433)] [(.ref b433)])) rfl (by rw [hml]; rfl) (Steps.refl _) (argsL := []) (rest := []) (lenOf pd21 rfl) rfl (Nat.le_of_eq rfl) (hb hby at_147) (fun _ _ => ⟨rfl, rfl, (by decide : 6 + 0 ≤ _), (by decide : 47 + 0 ≤ _)⟩)
      dsimp only [Pt.U, Pt.locs, Pt.cells, Pt.slots] at X470 l470 y470 z470 st470 hQ470
      subst l470 y470 z470
      obtain ⟨rfl, N470q, K470, f470_0⟩ := hQ470
      have N470 := Fr.app N467 N470q
      have hk471 := Nat.le_trans hk468 K470.1
      have Z472 : n0 ≤ T470.heap.size := Nat.le_trans Z469 K470.1
      have ff473 : Arv Z T470.heap ia_442 ki_444 .int (16 : Int32) [(.int 0), (.int 0)] (.int 0) := by have q := f470_0; rw [show ((-1 : Int32) + (1 : Int32)) = (0 : Int32) from by decide] at q; exact q
      have fa474 := (f467_0.keep K470)
      have fa475 := (f467_1.keep K470 (ninS ne454 nin0))
      have fa476 := (f467_2.keep K470 (ninS ne454 nin0))
      have fa477 := (f467_3.keep K470 (ninS ne454 nin0))
      have fa478 := (f467_4.keep K470 (ninS u440_4 nin0))
      obtain ⟨cq479, kq479, q479a, q479b, q479c⟩ := isOf hZ rfl fa474
      obtain ⟨_, _, ⟨T479, L479, k479, n479⟩, -, X479, ⟨Lc479, hQ479, l479, y479, z479⟩, st479⟩ := X470.virtualBack hx (y := oM3) (z := oM3) hown (mvT hZ (ow hw 158 rfl)) (mvT hZ (ow hw 159 rfl)) (notFace_of_selects (args := #[]) (mvT hZ (ow hw 161 rfl))) (mvT hZ (ow hw 161 rfl)) (mvT hZ (ow hw 160 rfl)) (by decide) (backOf (W := 0) (rm29d2 l Z a0 hw [] b433 ka_441 ia_442 kk_443 ki_444 (0 : Int32) (0 : Int32) T470.heap n0 Z472 fa474 fa475 fa476 fa477 fa478 ff473 gn_b433 u440_0 u440_2 ne450 ne454 u440_4) hZ (ow hw 162 rfl) (ow hw 11 rfl) (by decide) (by decide)) q479a q479c (g := (mkF m 157 #[.val (.int p0), .val (.int p1), .val (.int 1), .val (.int 2), .val (.ref b399), .val (.ref b433)] [(.ref b433)])) rfl (by rw [hml]; rfl) (Steps.refl _) (argsL := []) (rest := []) (lenOf pd21 rfl) rfl (Nat.le_of_eq rfl) (hb hby at_157) (fun _ _ => ⟨rfl, rfl, (by decide : 6 + 0 ≤ _), (by decide : 47 + 0 ≤ _)⟩)
      dsimp only [Pt.U, Pt.locs, Pt.cells, Pt.slots] at X479 l479 y479 z479 st479 hQ479
      subst l479 y479 z479
      obtain ⟨rfl, N479q, K479, f479_0⟩ := hQ479
      have N479 := Fr.app N470 N479q
      have hk480 := Nat.le_trans hk471 K479.1
      have Z481 : n0 ≤ T479.heap.size := Nat.le_trans Z472 K479.1
      have ff482 : Arv Z T479.heap ia_442 ki_444 .int (16 : Int32) [(.int 0), (.int 1)] (.int 0) := by have q := f479_0; rw [show ((0 : Int32) + (1 : Int32)) = (1 : Int32) from by decide] at q; exact q
      have fa483 := (fa474.keep K479)
      have fa484 := (fa475.keep K479 (ninS ne454 nin0))
      have fa485 := (fa476.keep K479 (ninS ne454 nin0))
      have fa486 := (fa477.keep K479 (ninS ne454 nin0))
      have fa487 := (fa478.keep K479 (ninS u440_4 nin0))
      have fa488 := ((((((((fa425.keep K426 (allS (P := fun x => n0 ≤ x) gn_b399 all0)).ext E433).keep K440 (allS (P := fun x => n0 ≤ x) gn_b433 all0)).keep K455 (allS (P := fun x => n0 ≤ x) gn_b433 (allS (P := fun x => n0 ≤ x) u440_0 (allS (P := fun x => n0 ≤ x) u440_2 all0)))).keep K458 (allS (P := fun x => n0 ≤ x) u440_2 all0)).keep K467 (allS (P := fun x => n0 ≤ x) gn_b433 (allS (P := fun x => n0 ≤ x) u440_0 (allS (P := fun x => n0 ≤ x) u440_2 all0)))).keep K470 (allS (P := fun x => n0 ≤ x) u440_2 all0)).keep K479 (allS (P := fun x => n0 ≤ x) u440_2 all0))
      obtain ⟨cq489, kq489, q489a, q489b, q489c⟩ := isOf hZ rfl fa483
      obtain ⟨_, _, ⟨T489, L489, k489, n489⟩, -, X489, ⟨Lc489, hQ489, l489, y489, z489⟩, st489⟩ := X479.virtualBack hx (y := oM28) (z := oM28) hown (mvT hZ (ow hw 36 rfl)) (mvT hZ (ow hw 37 rfl)) (notFace_of_selects (args := #[]) (mvT hZ (ow hw 39 rfl))) (mvT hZ (ow hw 39 rfl)) (mvT hZ (ow hw 38 rfl)) (by decide) (backOf (W := 0) (rm5_2 l Z a0 hw [] b433 ka_441 ia_442 kk_443 ki_444 cs da cd (0 : Int32) (1 : Int32) (48 : Int32) (49 : Int32) T479.heap n0 Z481 fa483 fa484 fa485 fa486 fa487 ff482 Cs (by first | assumption | decide | omega) fa488 Dd Da (by first | assumption | decide | omega) (by first | assumption | decide | omega) (by first | assumption | decide | omega) (by first | assumption | decide | omega) (by first | assumption | decide | omega) (by first | assumption | decide | omega) (by first | assumption | decide | omega)) hZ (ow hw 40 rfl) (ow hw 11 rfl) (by decide) (by decide)) q489a q489c (g := (mkF m 162 #[.val (.int p0), .val (.int p1), .val (.int 1), .val (.int 2), .val (.ref b399), .val (.ref b433)] [(.ref b433)])) rfl (by rw [hml]; rfl) (Steps.refl _) (argsL := []) (rest := []) (lenOf pd22 rfl) rfl (Nat.le_of_eq rfl) (hb hby at_162) (fun _ _ => ⟨rfl, rfl, (by decide : 6 + 4 ≤ _), (by decide : 47 + 28 ≤ _)⟩)
      dsimp only [Pt.U, Pt.locs, Pt.cells, Pt.slots] at X489 l489 y489 z489 st489 hQ489
      subst l489 y489 z489
      obtain ⟨sa_490, vb_491, kb_492, rfl, N489q, K489, u489_0, u489_1, u489_2, u489_3, f489_0, f489_1, f489_2, f489_3⟩ := hQ489
      have N489 := Fr.app N479 N489q
      have hk493 := Nat.le_trans hk480 K489.1
      have Z494 : n0 ≤ T489.heap.size := Nat.le_trans Z481 K489.1
      have ne495 : b399 ≠ sa_490 := Nat.ne_of_lt (Nat.lt_of_lt_of_le (((((((f426_0.ext E433).keep K440).keep K455).keep K458).keep K467).keep K470).keep K479).lt u489_1)
      have ne496 : b402 ≠ sa_490 := Nat.ne_of_lt (Nat.lt_of_lt_of_le (((((((fa435.ext E433).keep K440 (ninS ne436 nin0)).keep K455 (ninS ne436 (ninS ne448 (ninS ne452 nin0)))).keep K458 (ninS ne452 nin0)).keep K467 (ninS ne436 (ninS ne448 (ninS ne452 nin0)))).keep K470 (ninS ne452 nin0)).keep K479 (ninS ne452 nin0)).lt u489_1)
      have ne497 : vb_427 ≠ sa_490 := Nat.ne_of_lt (Nat.lt_of_lt_of_le (((((((f426_3.ext E433).keep K440 (ninS ne437 nin0)).keep K455 (ninS ne437 (ninS ne449 (ninS ne453 nin0)))).keep K458 (ninS ne453 nin0)).keep K467 (ninS ne437 (ninS ne449 (ninS ne453 nin0)))).keep K470 (ninS ne453 nin0)).keep K479 (ninS ne453 nin0)).lt u489_1)
      have ne498 : b433 ≠ sa_490 := Nat.ne_of_lt (Nat.lt_of_lt_of_le fa483.lt u489_1)
      have ne499 : ka_441 ≠ sa_490 := Nat.ne_of_lt (Nat.lt_of_lt_of_le fa487.lt u489_1)
      have ne500 : ia_442 ≠ sa_490 := Nat.ne_of_lt (Nat.lt_of_lt_of_le ff482.lt u489_1)
      have ne501 : b399 ≠ vb_491 := Nat.ne_of_lt (Nat.lt_of_lt_of_le (((((((f426_0.ext E433).keep K440).keep K455).keep K458).keep K467).keep K470).keep K479).lt u489_3)
      have ne502 : b402 ≠ vb_491 := Nat.ne_of_lt (Nat.lt_of_lt_of_le (((((((fa435.ext E433).keep K440 (ninS ne436 nin0)).keep K455 (ninS ne436 (ninS ne448 (ninS ne452 nin0)))).keep K458 (ninS ne452 nin0)).keep K467 (ninS ne436 (ninS ne448 (ninS ne452 nin0)))).keep K470 (ninS ne452 nin0)).keep K479 (ninS ne452 nin0)).lt u489_3)
      have ne503 : vb_427 ≠ vb_491 := Nat.ne_of_lt (Nat.lt_of_lt_of_le (((((((f426_3.ext E433).keep K440 (ninS ne437 nin0)).keep K455 (ninS ne437 (ninS ne449 (ninS ne453 nin0)))).keep K458 (ninS ne453 nin0)).keep K467 (ninS ne437 (ninS ne449 (ninS ne453 nin0)))).keep K470 (ninS ne453 nin0)).keep K479 (ninS ne453 nin0)).lt u489_3)
      have ne504 : b433 ≠ vb_491 := Nat.ne_of_lt (Nat.lt_of_lt_of_le fa483.lt u489_3)
      have ne505 : ka_441 ≠ vb_491 := Nat.ne_of_lt (Nat.lt_of_lt_of_le fa487.lt u489_3)
      have ne506 : ia_442 ≠ vb_491 := Nat.ne_of_lt (Nat.lt_of_lt_of_le ff482.lt u489_3)
      have fa507 := ((((((((f426_0.ext E433).keep K440).keep K455).keep K458).keep K467).keep K470).keep K479).keep K489)
      have fa508 := ((((((((f426_1.ext E433).keep K440 (ninS ne434 nin0)).keep K455 (ninS ne434 (ninS ne447 (ninS ne451 nin0)))).keep K458 (ninS ne451 nin0)).keep K467 (ninS ne434 (ninS ne447 (ninS ne451 nin0)))).keep K470 (ninS ne451 nin0)).keep K479 (ninS ne451 nin0)).keep K489 nin0)
      have fa509 := ((((((((f426_2.ext E433).keep K440 (ninS ne434 nin0)).keep K455 (ninS ne434 (ninS ne447 (ninS ne451 nin0)))).keep K458 (ninS ne451 nin0)).keep K467 (ninS ne434 (ninS ne447 (ninS ne451 nin0)))).keep K470 (ninS ne451 nin0)).keep K479 (ninS ne451 nin0)).keep K489 nin0)
      have fa510 := ((((((((f426_3.ext E433).keep K440 (ninS ne437 nin0)).keep K455 (ninS ne437 (ninS ne449 (ninS ne453 nin0)))).keep K458 (ninS ne453 nin0)).keep K467 (ninS ne437 (ninS ne449 (ninS ne453 nin0)))).keep K470 (ninS ne453 nin0)).keep K479 (ninS ne453 nin0)).keep K489 nin0)
      have fa511 := (fa488.keep K489 all0)
      obtain ⟨cq512, kq512, q512a, q512b, q512c⟩ := isOf hZ rfl f489_0
      obtain ⟨_, _, ⟨T512, L512, k512, n512⟩, -, X512, ⟨Lc512, hQ512, l512, y512, z512⟩, st512⟩ := X489.virtualBack hx (y := oM30) (z := oM30) hown (mvT hZ (ow hw 114 rfl)) (mvT hZ (ow hw 115 rfl)) (notFace_of_selects (args := #[]) (mvT hZ (ow hw 117 rfl))) (mvT hZ (ow hw 117 rfl)) (mvT hZ (ow hw 116 rfl)) (by decide) (backOf (W := 0) (rm19n4 l Z a0 hw [] sa_490 b399 vb_491 kb_492 vb_427 kb_428 (47 : Int32) (48 : Int32) (47 : Int32) (49 : Int32) cs T489.heap n0 Z494 f489_0 f489_1 f489_2 f489_3 fa507 fa508 fa509 fa510 (Ne.symm ne495) Cs (by first | assumption | decide | omega) fa511) hZ (ow hw 118 rfl) (ow hw 2 rfl) (by decide) (by decide)) q512a q512c (g := (mkF m 167 #[.val (.int p0), .val (.int p1), .val (.int 1), .val (.int 2), .val (.ref b399), .val (.ref b433)] [(.ref b399), (.ref sa_490)])) rfl (by rw [hml]; rfl) (Steps.refl _) (argsL := [(.ref b399)]) (rest := []) (lenOf pd32 rfl) rfl (Nat.le_of_eq rfl) (hb hby at_167) (fun _ _ => ⟨rfl, rfl, (by decide : 10 + 0 ≤ _), (by decide : 75 + 0 ≤ _)⟩)
      dsimp only [Pt.U, Pt.locs, Pt.cells, Pt.slots] at X512 l512 y512 z512 st512 hQ512
      subst l512 y512 z512
      obtain ⟨rfl, N512q, e512⟩ := hQ512
      have N512 := Fr.app N489 N512q
      have fa513 := (fa483.keep K489)
      have fa514 := (fa485.keep K489 nin0)
      have fa515 := (fa486.keep K489 nin0)
      have fa516 := (ff482.keep K489 nin0)
      obtain ⟨cq517, kq517, q517a, q517b, q517c⟩ := isOf hZ e512 fa513
      obtain ⟨_, _, ⟨T517, L517, k517, n517⟩, -, X517, ⟨Lc517, hQ517, l517, y517, z517⟩, st517⟩ := X512.virtualBack hx (y := oM6) (z := oM6) hown (mvT hZ (ow hw 125 rfl)) (mvT hZ (ow hw 126 rfl)) (notFace_of_selects (args := #[]) (mvT hZ (ow hw 128 rfl))) (mvT hZ (ow hw 128 rfl)) (mvT hZ (ow hw 127 rfl)) (by decide) (backOf (W := 0) (rm21 l Z a0 hw [] b433 ia_442 ki_444 (0 : Int32) (1 : Int32) T489.heap n0 Z494 fa513 fa514 fa515 fa516 (by first | assumption | decide | omega) (by first | assumption | decide | omega)) hZ (ow hw 129 rfl) (ow hw 11 rfl) (by decide) (by decide)) q517a q517c (g := (mkF m 175 #[.val (.int p0), .val (.int p1), .val (.int 1), .val (.int 2), .val (.ref b399), .val (.ref b433)] [(.ref b433)])) rfl (by rw [hml]; rfl) (Steps.refl _) (argsL := []) (rest := []) (lenOf pd2 rfl) rfl (Nat.le_of_eq rfl) (hb hby at_175) (fun _ _ => ⟨rfl, e512, (by decide : 10 + 0 ≤ _), (by decide : 75 + 0 ≤ _)⟩)
      dsimp only [Pt.U, Pt.locs, Pt.cells, Pt.slots] at X517 l517 y517 z517 st517 hQ517
      subst l517 y517 z517
      obtain ⟨rfl, N517q, e517⟩ := hQ517
      have N517 := Fr.app N512 N517q
      obtain ⟨cq518, kq518, q518a, q518b, q518c⟩ := isOf hZ e517 fa513
      obtain ⟨_, _, ⟨T518, L518, k518, n518⟩, -, X518, ⟨Lc518, hQ518, l518, y518, z518⟩, st518⟩ := X517.virtualBack hx (y := oM4) (z := oM4) hown (mvT hZ (ow hw 135 rfl)) (mvT hZ (ow hw 136 rfl)) (notFace_of_selects (args := #[]) (mvT hZ (ow hw 138 rfl))) (mvT hZ (ow hw 138 rfl)) (mvT hZ (ow hw 137 rfl)) (by decide) (backOf (W := 0) (rm23 l Z a0 hw [] b433 T489.heap n0 Z494 fa515) hZ (ow hw 139 rfl) (ow hw 11 rfl) (by decide) (by decide)) q518a q518c (g := (mkF m 192 #[.val (.int p0), .val (.int p1), .val (.int 1), .val (.int 2), .val (.ref b399), .val (.ref b433)] [(.ref b433)])) rfl (by rw [hml]; rfl) (Steps.refl _) (argsL := []) (rest := []) (lenOf pd12 rfl) rfl (Nat.le_of_eq rfl) (hb hby at_192) (fun _ _ => ⟨rfl, e517, (by decide : 10 + 0 ≤ _), (by decide : 75 + 0 ≤ _)⟩)
      dsimp only [Pt.U, Pt.locs, Pt.cells, Pt.slots] at X518 l518 y518 z518 st518 hQ518
      subst l518 y518 z518
      obtain ⟨rfl, N518q, e518⟩ := hQ518
      have N518 := Fr.app N517 N518q
      obtain ⟨fsZ, hrZ, hrun, hended, hRE⟩ := X518.leaveW hS0 (by rw [e518]; exact hk493) (v := some (.int 1)) (fun h => by rw [Bd.returns] at h; cases h)
      refine ⟨_, _, pre1 _ ?_, hrun, hended, _, _, rfl, ?_, hRE.1, hRE.2.1, hRE.2.2.1, hRE.2.2.2.mono (by decide) (by decide)⟩
      · show Steps _ _ _ (s₁.setTop (mkF m 14 #[.val (.int p0), .val (.int p1), .val (.int 1), .val (.int 2), .unset, .unset] [])) _
        refine XS.iloadN X0.here hx rfl (hb hby at_14) rfl  ?_
        refine XS.ifYes X0.here hx rfl (pc0 := 15) (pc' := 25) rfl (hb hby at_15) rfl ((if0 _ _).trans (feq (by decide)).2) (by decide) (by decide) ?_
        refine XS.iloadN X0.here hx rfl (hb hby at_25) rfl  ?_
        refine XS.ifYes X0.here hx rfl (pc0 := 26) (pc' := 59) rfl (hb hby at_26) rfl ((if0 _ _).trans (feq (by decide)).2) (by decide) (by decide) ?_
        show Steps _ _ _ (s₁.setTop (mkF m 59 #[.val (.int p0), .val (.int p1), .val (.int 1), .val (.int 2), .unset, .unset] [])) _
        refine st399 _ ?_
        refine XS.dup X399.here hx rfl (hb hby at_62) rfl rfl ?_
        refine XS.iconst X399.here hx rfl (hb hby at_63) ?_
        show Steps _ _ _ (T399.setTop (mkF m 64 #[.val (.int p0), .val (.int p1), .val (.int 1), .val (.int 2), .unset, .unset] [(.int 4), (.ref b399), (.ref b399)])) _
        refine st402 _ ?_
        refine XS.dup X402.here hx rfl (hb hby at_66) rfl rfl ?_
        refine XS.iconst X402.here hx rfl (hb hby at_67) ?_
        refine XS.bipush X402.here hx rfl (hb hby at_68) ?_
        show Steps _ _ _ (T402.setTop (mkF m 70 #[.val (.int p0), .val (.int p1), .val (.int 1), .val (.int 2), .unset, .unset] [(.int 47), (.int 0), (.ref b402), (.ref b402), (.ref b399), (.ref b399)])) _
        refine st407 _ ?_
        refine XS.dup X407.here hx rfl (hb hby at_71) rfl rfl ?_
        refine XS.iconst X407.here hx rfl (hb hby at_72) ?_
        refine XS.bipush X407.here hx rfl (hb hby at_73) ?_
        refine XS.iloadN X407.here hx rfl (hb hby at_75) rfl  ?_
        refine XS.iadd X407.here hx rfl (hb hby at_76) rfl ?_
        show Steps _ _ _ (T407.setTop (mkF m 77 #[.val (.int p0), .val (.int p1), .val (.int 1), .val (.int 2), .unset, .unset] [(.int ((48 : Int32) + (1 : Int32))), (.int 1), (.ref b402), (.ref b402), (.ref b399), (.ref b399)])) _
        rw [show ((48 : Int32) + (1 : Int32)) = (49 : Int32) from by decide]
        show Steps _ _ _ (T407.setTop (mkF m 77 #[.val (.int p0), .val (.int p1), .val (.int 1), .val (.int 2), .unset, .unset] [(.int 49), (.int 1), (.ref b402), (.ref b402), (.ref b399), (.ref b399)])) _
        refine XS.iconst X407.here hx rfl (hb hby at_77) ?_
        refine XS.isub X407.here hx rfl (hb hby at_78) rfl ?_
        show Steps _ _ _ (T407.setTop (mkF m 79 #[.val (.int p0), .val (.int p1), .val (.int 1), .val (.int 2), .unset, .unset] [(.int ((49 : Int32) - (1 : Int32))), (.int 1), (.ref b402), (.ref b402), (.ref b399), (.ref b399)])) _
        rw [show ((49 : Int32) - (1 : Int32)) = (48 : Int32) from by decide]
        show Steps _ _ _ (T407.setTop (mkF m 79 #[.val (.int p0), .val (.int p1), .val (.int 1), .val (.int 2), .unset, .unset] [(.int 48), (.int 1), (.ref b402), (.ref b402), (.ref b399), (.ref b399)])) _
        refine XS.i2c X407.here hx rfl (hb hby at_79) rfl ?_
        show Steps _ _ _ (T407.setTop (mkF m 80 #[.val (.int p0), .val (.int p1), .val (.int 1), .val (.int 2), .unset, .unset] [(.int ((48 : Int32).toUInt32.toUInt16.toUInt32.toInt32)), (.int 1), (.ref b402), (.ref b402), (.ref b399), (.ref b399)])) _
        rw [show ((48 : Int32).toUInt32.toUInt16.toUInt32.toInt32) = (48 : Int32) from by decide]
        show Steps _ _ _ (T407.setTop (mkF m 80 #[.val (.int p0), .val (.int p1), .val (.int 1), .val (.int 2), .unset, .unset] [(.int 48), (.int 1), (.ref b402), (.ref b402), (.ref b399), (.ref b399)])) _
        refine st411 _ ?_
        refine XS.dup X411.here hx rfl (hb hby at_81) rfl rfl ?_
        refine XS.iconst X411.here hx rfl (hb hby at_82) ?_
        refine XS.bipush X411.here hx rfl (hb hby at_83) ?_
        show Steps _ _ _ (T411.setTop (mkF m 85 #[.val (.int p0), .val (.int p1), .val (.int 1), .val (.int 2), .unset, .unset] [(.int 47), (.int 2), (.ref b402), (.ref b402), (.ref b399), (.ref b399)])) _
        refine st415 _ ?_
        refine XS.dup X415.here hx rfl (hb hby at_86) rfl rfl ?_
        refine XS.iconst X415.here hx rfl (hb hby at_87) ?_
        refine XS.bipush X415.here hx rfl (hb hby at_88) ?_
        refine XS.iloadN X415.here hx rfl (hb hby at_90) rfl  ?_
        refine XS.iadd X415.here hx rfl (hb hby at_91) rfl ?_
        show Steps _ _ _ (T415.setTop (mkF m 92 #[.val (.int p0), .val (.int p1), .val (.int 1), .val (.int 2), .unset, .unset] [(.int ((48 : Int32) + (2 : Int32))), (.int 3), (.ref b402), (.ref b402), (.ref b399), (.ref b399)])) _
        rw [show ((48 : Int32) + (2 : Int32)) = (50 : Int32) from by decide]
        show Steps _ _ _ (T415.setTop (mkF m 92 #[.val (.int p0), .val (.int p1), .val (.int 1), .val (.int 2), .unset, .unset] [(.int 50), (.int 3), (.ref b402), (.ref b402), (.ref b399), (.ref b399)])) _
        refine XS.iconst X415.here hx rfl (hb hby at_92) ?_
        refine XS.isub X415.here hx rfl (hb hby at_93) rfl ?_
        show Steps _ _ _ (T415.setTop (mkF m 94 #[.val (.int p0), .val (.int p1), .val (.int 1), .val (.int 2), .unset, .unset] [(.int ((50 : Int32) - (1 : Int32))), (.int 3), (.ref b402), (.ref b402), (.ref b399), (.ref b399)])) _
        rw [show ((50 : Int32) - (1 : Int32)) = (49 : Int32) from by decide]
        show Steps _ _ _ (T415.setTop (mkF m 94 #[.val (.int p0), .val (.int p1), .val (.int 1), .val (.int 2), .unset, .unset] [(.int 49), (.int 3), (.ref b402), (.ref b402), (.ref b399), (.ref b399)])) _
        refine XS.i2c X415.here hx rfl (hb hby at_94) rfl ?_
        show Steps _ _ _ (T415.setTop (mkF m 95 #[.val (.int p0), .val (.int p1), .val (.int 1), .val (.int 2), .unset, .unset] [(.int ((49 : Int32).toUInt32.toUInt16.toUInt32.toInt32)), (.int 3), (.ref b402), (.ref b402), (.ref b399), (.ref b399)])) _
        rw [show ((49 : Int32).toUInt32.toUInt16.toUInt32.toInt32) = (49 : Int32) from by decide]
        show Steps _ _ _ (T415.setTop (mkF m 95 #[.val (.int p0), .val (.int p1), .val (.int 1), .val (.int 2), .unset, .unset] [(.int 49), (.int 3), (.ref b402), (.ref b402), (.ref b399), (.ref b399)])) _
        refine st419 _ ?_
        show Steps _ _ _ (T419.setTop (mkF m 96 #[.val (.int p0), .val (.int p1), .val (.int 1), .val (.int 2), .unset, .unset] [(.ref b402), (.ref b399), (.ref b399)])) _
        refine st426.trans ?_
        refine XS.astore X426.here hx rfl (hb hby at_99) rfl rfl (l' := #[.val (.int p0), .val (.int p1), .val (.int 1), .val (.int 2), .val (.ref b399), .unset]) rfl ?_
        show Steps _ _ _ (T426.setTop (mkF m 101 #[.val (.int p0), .val (.int p1), .val (.int 1), .val (.int 2), .val (.ref b399), .unset] [])) _
        refine st433 _ ?_
        refine XS.dup X433.here hx rfl (hb hby at_104) rfl rfl ?_
        show Steps _ _ _ (T433.setTop (mkF m 105 #[.val (.int p0), .val (.int p1), .val (.int 1), .val (.int 2), .val (.ref b399), .unset] [(.ref b433), (.ref b433)])) _
        refine st440.trans ?_
        refine XS.astore X440.here hx rfl (hb hby at_108) rfl rfl (l' := #[.val (.int p0), .val (.int p1), .val (.int 1), .val (.int 2), .val (.ref b399), .val (.ref b433)]) rfl ?_
        refine XS.aload X440.here hx rfl (hb hby at_110) rfl rfl ?_
        show Steps _ _ _ (T440.setTop (mkF m 112 #[.val (.int p0), .val (.int p1), .val (.int 1), .val (.int 2), .val (.ref b399), .val (.ref b433)] [(.ref b433)])) _
        refine st455.trans ?_
        refine XS.iloadN X455.here hx rfl (hb hby at_115) rfl  ?_
        refine XS.iconst X455.here hx rfl (hb hby at_116) ?_
        refine XS.icmpNo X455.here hx rfl (hb hby at_117) rfl (flt (by decide)).1 ?_
        refine XS.aload X455.here hx rfl (hb hby at_120) rfl rfl ?_
        show Steps _ _ _ (T455.setTop (mkF m 122 #[.val (.int p0), .val (.int p1), .val (.int 1), .val (.int 2), .val (.ref b399), .val (.ref b433)] [(.ref b433)])) _
        refine st458.trans ?_
        refine XS.iloadN X458.here hx rfl (hb hby at_125) rfl  ?_
        refine XS.iconst X458.here hx rfl (hb hby at_126) ?_
        refine XS.icmpYes X458.here hx rfl (pc0 := 127) (pc' := 135) rfl (hb hby at_127) rfl (tlt (by decide)).1 (by decide) (by decide) ?_
        refine XS.aload X458.here hx rfl (hb hby at_135) rfl rfl ?_
        show Steps _ _ _ (T458.setTop (mkF m 137 #[.val (.int p0), .val (.int p1), .val (.int 1), .val (.int 2), .val (.ref b399), .val (.ref b433)] [(.ref b433)])) _
        refine st467.trans ?_
        refine XS.iloadN X467.here hx rfl (hb hby at_140) rfl  ?_
        refine XS.iconst X467.here hx rfl (hb hby at_141) ?_
        refine XS.icmpNo X467.here hx rfl (hb hby at_142) rfl (flt (by decide)).1 ?_
        refine XS.aload X467.here hx rfl (hb hby at_145) rfl rfl ?_
        show Steps _ _ _ (T467.setTop (mkF m 147 #[.val (.int p0), .val (.int p1), .val (.int 1), .val (.int 2), .val (.ref b399), .val (.ref b433)] [(.ref b433)])) _
        refine st470.trans ?_
        refine XS.iloadN X470.here hx rfl (hb hby at_150) rfl  ?_
        refine XS.iconst X470.here hx rfl (hb hby at_151) ?_
        refine XS.icmpNo X470.here hx rfl (hb hby at_152) rfl (flt (by decide)).1 ?_
        refine XS.aload X470.here hx rfl (hb hby at_155) rfl rfl ?_
        show Steps _ _ _ (T470.setTop (mkF m 157 #[.val (.int p0), .val (.int p1), .val (.int 1), .val (.int 2), .val (.ref b399), .val (.ref b433)] [(.ref b433)])) _
        refine st479.trans ?_
        refine XS.aload X479.here hx rfl (hb hby at_160) rfl rfl ?_
        show Steps _ _ _ (T479.setTop (mkF m 162 #[.val (.int p0), .val (.int p1), .val (.int 1), .val (.int 2), .val (.ref b399), .val (.ref b433)] [(.ref b433)])) _
        refine st489.trans ?_
        refine XS.aload X489.here hx rfl (hb hby at_165) rfl rfl ?_
        show Steps _ _ _ (T489.setTop (mkF m 167 #[.val (.int p0), .val (.int p1), .val (.int 1), .val (.int 2), .val (.ref b399), .val (.ref b433)] [(.ref b399), (.ref sa_490)])) _
        refine st512.trans ?_
        refine XS.ifNo X512.here hx rfl (hb hby at_170) rfl ((if0 _ _).trans (feq (by decide)).1) ?_
        refine XS.aload X512.here hx rfl (hb hby at_173) rfl rfl ?_
        show Steps _ _ _ (T512.setTop (mkF m 175 #[.val (.int p0), .val (.int p1), .val (.int 1), .val (.int 2), .val (.ref b399), .val (.ref b433)] [(.ref b433)])) _
        refine st517.trans ?_
        refine XS.iloadN X517.here hx rfl (hb hby at_178) rfl  ?_
        refine XS.ifYes X517.here hx rfl (pc0 := 179) (pc' := 186) rfl (hb hby at_179) rfl ((if0 _ _).trans (feq (by decide)).2) (by decide) (by decide) ?_
        refine XS.iconst X517.here hx rfl (hb hby at_186) ?_
        refine XS.icmpNo X517.here hx rfl (hb hby at_187) rfl (teq (by decide)).2 ?_
        refine XS.aload X517.here hx rfl (hb hby at_190) rfl rfl ?_
        show Steps _ _ _ (T517.setTop (mkF m 192 #[.val (.int p0), .val (.int p1), .val (.int 1), .val (.int 2), .val (.ref b399), .val (.ref b433)] [(.ref b433)])) _
        refine st518.trans ?_
        refine XS.iconst X518.here hx rfl (hb hby at_195) ?_
        refine XS.icmpNo X518.here hx rfl (hb hby at_196) rfl (teq (by decide)).2 ?_
        refine XS.iconst X518.here hx rfl (hb hby at_199) ?_
        refine XS.goto X518.here hx rfl (pc0 := 200) (pc' := 204) rfl (hb hby at_200) (by decide) (by decide) ?_
        show Steps _ _ _ (T518.setTop (mkF m 204 #[.val (.int p0), .val (.int p1), .val (.int 1), .val (.int 2), .val (.ref b399), .val (.ref b433)] [(.int 1)])) _
        exact retN X518 hx (t := .boolean) Bd.returns (by simp) (hb hby at_204) hrZ
      · show Q0 Z p0 p1 cs da cd h0 n0 _ T518.heap _
        rw [e518]
        exact ⟨rfl, N518⟩
  ·  -- k1 = 2
    rcases own_3 hk2 with rfl | rfl | rfl
    ·  -- k2 = 0
      obtain ⟨T519, h519, X519, e519, E519, A519, D519, -, st519⟩ := newO X0 hx hZ hown (ow hw 140 rfl) (ow hw 3 rfl) (ow hw 2 rfl) e0 (g := (mkF m 29 #[.val (.int p0), .val (.int p1), .val (.int 2), .val (.int 0), .unset, .unset] [])) rfl (hb hby at_29) (by decide) (by decide)
      obtain ⟨b519, g519⟩ : ∃ z, z = h0.size := ⟨_, rfl⟩
      rw [← g519] at A519 D519 st519
      have gn_b519 : n0 ≤ b519 := Nat.le_trans Z0 (Nat.le_of_eq g519.symm)
      have hk520 := Nat.le_trans hk0 E519.1
      have Z521 : n0 ≤ h519.size := Nat.le_trans Z0 E519.1
      have F_value_b519 : Fld Z h519 b519 oS "value" "[B" .null := D519 (Or.inr (ow hw 5 rfl)) (ty := (.array .byte)) (by decide)
      have F_coder_b519 : Fld Z h519 b519 oS "coder" "B" (.int 0) := D519 (Or.inr (ow hw 6 rfl)) (ty := .byte) (by decide)
      obtain ⟨T522, h522, k522, X522, e522, E522, A522, st522⟩ := newP X519 hx hZ (ow hw 141 rfl) e519 (g := (mkF m 34 #[.val (.int p0), .val (.int p1), .val (.int 2), .val (.int 0), .unset, .unset] [(.int 2), (.ref b519), (.ref b519)])) rfl (hb hby at_34) rfl (by decide) (cap := 2) (by decide) (by decide) (by decide) (by decide)
      obtain ⟨b522, g522⟩ : ∃ z, z = h519.size := ⟨_, rfl⟩
      rw [← g522] at A522 st522
      have ne523 : b519 ≠ b522 := Nat.ne_of_lt (Nat.lt_of_lt_of_le A519.lt (Nat.le_of_eq g522.symm))
      have gn_b522 : n0 ≤ b522 := Nat.le_trans Z521 (Nat.le_of_eq g522.symm)
      have hk524 := Nat.le_trans hk520 E522.1
      have Z525 : n0 ≤ h522.size := Nat.le_trans Z521 E522.1
      have V522 : Arv Z h522 b522 k522 .char (2 : Int32) [(.int 0), (.int 0)] (.int 0) := (Arv.new A522 (by decide)).pad (pad_rep [] (.int 0) 2)
      obtain ⟨c526, Arc526, qc526, Sc526, Mc526, Hc526, Gc526⟩ := id V522
      have hinc526 : ¬ ((0 : Int32) < 0 ∨ c526.slots.size ≤ ((0 : Int32)).toNatClampNeg) := inb_of Sc526 ⟨by decide, by decide⟩
      obtain ⟨T527, h527, X527, e527, W527, st527⟩ := stC X522 hx hZ e522 Arc526 (j := (0 : Int32)) hinc526  (g := (mkF m 40 #[.val (.int p0), .val (.int p1), .val (.int 2), .val (.int 0), .unset, .unset] [(.int 47), (.int 0), (.ref b522), (.ref b522), (.ref b519), (.ref b519)])) rfl rfl (hb hby at_40)
      have V527 : Arv Z h527 b522 k522 .char (2 : Int32) [(.int 47), (.int 0)] (.int 0) := Arv.set Arc526 qc526 Sc526 Mc526 Hc526 Gc526 (fits_nar_char _) W527 0 rfl (Nat.le_of_ble_eq_true rfl)
      have hk528 := Nat.le_trans hk524 (Nat.le_of_eq W527.size.symm)
      have Z529 : n0 ≤ h527.size := Nat.le_trans Z525 (Nat.le_of_eq W527.size.symm)
      have N527 := Fr.snoc X527 N0 gn_b522
      obtain ⟨c530, Arc530, qc530, Sc530, Mc530, Hc530, Gc530⟩ := id V527
      have hinc530 : ¬ ((1 : Int32) < 0 ∨ c530.slots.size ≤ ((1 : Int32)).toNatClampNeg) := inb_of Sc530 ⟨by decide, by decide⟩
      obtain ⟨T531, h531, X531, e531, W531, st531⟩ := stC X527 hx hZ e527 Arc530 (j := (1 : Int32)) hinc530  (g := (mkF m 50 #[.val (.int p0), .val (.int p1), .val (.int 2), .val (.int 0), .unset, .unset] [(.int 49), (.int 1), (.ref b522), (.ref b522), (.ref b519), (.ref b519)])) rfl rfl (hb hby at_50)
      have V531 : Arv Z h531 b522 k522 .char (2 : Int32) [(.int 47), (.int 49)] (.int 0) := Arv.set Arc530 qc530 Sc530 Mc530 Hc530 Gc530 (fits_nar_char _) W531 1 rfl (Nat.le_of_ble_eq_true rfl)
      have hk532 := Nat.le_trans hk528 (Nat.le_of_eq W531.size.symm)
      have Z533 : n0 ≤ h531.size := Nat.le_trans Z529 (Nat.le_of_eq W531.size.symm)
      have N531 := Fr.snoc X531 N527 gn_b522
      have fa534 := (((A519.ext E522).wr W527).wr W531)
      have fa535 := (((F_coder_b519.ext E522).other W527 (Or.inl ne523)).other W531 (Or.inl ne523))
      have fa536 := (((F_value_b519.ext E522).other W527 (Or.inl ne523)).other W531 (Or.inl ne523))
      have fa537 := ((((Ox.ext E519).ext E522).wr W527 gn_b522).wr W531 gn_b522)
      obtain ⟨_, _, ⟨T538, L538, k538, n538⟩, -, X538, ⟨Lc538, hQ538, l538, y538, z538⟩, st538⟩ := X531.specialBack hx (y := oM35) rfl hown (mvT hZ (ow hw 142 rfl)) (mvT hZ (ow hw 143 rfl)) (mvT hZ (ow hw 144 rfl)) (by decide) (backOf (W := 1) (rm24n2 l Z a0 hw [] b519 b522 (.int 0) .null k522 (47 : Int32) (49 : Int32) cs h531 n0 Z533 fa534 fa535 fa536 gn_b519 V531 ne523 (by first | assumption | decide | omega) (by first | assumption | decide | omega) (by first | assumption | decide | omega) (by first | assumption | decide | omega) Cs (by first | assumption | decide | omega) fa537) hZ (ow hw 144 rfl) (ow hw 2 rfl) (by decide) (by decide)) (g := (mkF m 51 #[.val (.int p0), .val (.int p1), .val (.int 2), .val (.int 0), .unset, .unset] [(.ref b522), (.ref b519), (.ref b519)])) rfl (by rw [hml]; rfl) (Steps.refl _) (a := b519) (argsL := [(.ref b522)]) (rest := [(.ref b519)]) (lenOf pd33 rfl) rfl (Nat.le_of_eq rfl) (hb hby at_51) (fun _ _ => ⟨rfl, e531, (by decide : 2 + 1 ≤ _), (by decide : 6 + 2 ≤ _)⟩)
      dsimp only [Pt.U, Pt.locs, Pt.cells, Pt.slots] at X538 l538 y538 z538 st538 hQ538
      subst l538 y538 z538
      obtain ⟨vb_539, kb_540, rfl, N538q, K538, u538_0, u538_1, f538_0, f538_1, f538_2, f538_3⟩ := hQ538
      have N538 := Fr.app N531 N538q
      have hk541 := Nat.le_trans hk532 K538.1
      have Z542 : n0 ≤ T538.heap.size := Nat.le_trans Z533 K538.1
      have ne543 : b519 ≠ vb_539 := Nat.ne_of_lt (Nat.lt_of_lt_of_le fa534.lt u538_1)
      have ne544 : b522 ≠ vb_539 := Nat.ne_of_lt (Nat.lt_of_lt_of_le V531.lt u538_1)
      obtain ⟨T545, h545, X545, e545, E545, A545, D545, -, st545⟩ := newO X538 hx hZ hown (ow hw 9 rfl) (ow hw 10 rfl) (ow hw 11 rfl) rfl (g := (mkF m 101 #[.val (.int p0), .val (.int p1), .val (.int 2), .val (.int 0), .val (.ref b519), .unset] [])) rfl (hb hby at_101) (by decide) (by decide)
      obtain ⟨b545, g545⟩ : ∃ z, z = T538.heap.size := ⟨_, rfl⟩
      rw [← g545] at A545 D545 st545
      have ne546 : b519 ≠ b545 := Nat.ne_of_lt (Nat.lt_of_lt_of_le f538_0.lt (Nat.le_of_eq g545.symm))
      have fa547 := (V531.keep K538 (ninS (Ne.symm ne523) nin0))
      have ne548 : b522 ≠ b545 := Nat.ne_of_lt (Nat.lt_of_lt_of_le fa547.lt (Nat.le_of_eq g545.symm))
      have ne549 : vb_539 ≠ b545 := Nat.ne_of_lt (Nat.lt_of_lt_of_le f538_3.lt (Nat.le_of_eq g545.symm))
      have gn_b545 : n0 ≤ b545 := Nat.le_trans Z542 (Nat.le_of_eq g545.symm)
      have hk550 := Nat.le_trans hk541 E545.1
      have Z551 : n0 ≤ h545.size := Nat.le_trans Z542 E545.1
      have F_keys_b545 : Fld Z h545 b545 oJ "keys" "[Ljava/lang/String;" .null := D545 (Or.inl (ow hw 21 rfl)) (ty := (.array (.object oS))) (by decide)
      have F_indexes_b545 : Fld Z h545 b545 oJ "indexes" "[I" .null := D545 (Or.inl (ow hw 24 rfl)) (ty := (.array .int)) (by decide)
      have F_depth_b545 : Fld Z h545 b545 oJ "depth" "I" (.int 0) := D545 (Or.inl (ow hw 35 rfl)) (ty := .int) (by decide)
      obtain ⟨_, _, ⟨T552, L552, k552, n552⟩, -, X552, ⟨Lc552, hQ552, l552, y552, z552⟩, st552⟩ := X545.specialBack hx (y := oM0) rfl hown (mvT hZ (ow hw 12 rfl)) (mvT hZ (ow hw 13 rfl)) (mvT hZ (ow hw 14 rfl)) (by decide) (backOf (W := 1) (rm1 l Z a0 hw [] b545 .null .null h545 n0 Z551 A545 F_keys_b545 F_indexes_b545 F_depth_b545 gn_b545) hZ (ow hw 14 rfl) (ow hw 11 rfl) (by decide) (by decide)) (g := (mkF m 105 #[.val (.int p0), .val (.int p1), .val (.int 2), .val (.int 0), .val (.ref b519), .unset] [(.ref b545), (.ref b545)])) rfl (by rw [hml]; rfl) (Steps.refl _) (a := b545) (argsL := []) (rest := [(.ref b545)]) (lenOf pd21 rfl) rfl (Nat.le_of_eq rfl) (hb hby at_105) (fun _ _ => ⟨rfl, e545, (by decide : 4 + 2 ≤ _), (by decide : 11 + 32 ≤ _)⟩)
      dsimp only [Pt.U, Pt.locs, Pt.cells, Pt.slots] at X552 l552 y552 z552 st552 hQ552
      subst l552 y552 z552
      obtain ⟨ka_553, ia_554, kk_555, ki_556, rfl, N552q, K552, u552_0, u552_1, u552_2, u552_3, u552_4, f552_0, f552_1, f552_2, f552_3, f552_4, f552_5⟩ := hQ552
      have N552 := Fr.app N538 N552q
      have hk557 := Nat.le_trans hk550 K552.1
      have Z558 : n0 ≤ T552.heap.size := Nat.le_trans Z551 K552.1
      have ne559 : b519 ≠ ka_553 := Nat.ne_of_lt (Nat.lt_of_lt_of_le (f538_0.ext E545).lt u552_1)
      have ne560 : b522 ≠ ka_553 := Nat.ne_of_lt (Nat.lt_of_lt_of_le (fa547.ext E545).lt u552_1)
      have ne561 : vb_539 ≠ ka_553 := Nat.ne_of_lt (Nat.lt_of_lt_of_le (f538_3.ext E545).lt u552_1)
      have ne562 : b545 ≠ ka_553 := Nat.ne_of_lt (Nat.lt_of_lt_of_le A545.lt u552_1)
      have ne563 : b519 ≠ ia_554 := Nat.ne_of_lt (Nat.lt_of_lt_of_le (f538_0.ext E545).lt u552_3)
      have ne564 : b522 ≠ ia_554 := Nat.ne_of_lt (Nat.lt_of_lt_of_le (fa547.ext E545).lt u552_3)
      have ne565 : vb_539 ≠ ia_554 := Nat.ne_of_lt (Nat.lt_of_lt_of_le (f538_3.ext E545).lt u552_3)
      have ne566 : b545 ≠ ia_554 := Nat.ne_of_lt (Nat.lt_of_lt_of_le A545.lt u552_3)
      obtain ⟨cq567, kq567, q567a, q567b, q567c⟩ := isOf hZ rfl f552_0
      obtain ⟨_, _, ⟨T567, L567, k567, n567⟩, -, X567, ⟨Lc567, hQ567, l567, y567, z567⟩, st567⟩ := X552.virtualBack hx (y := oM2) (z := oM2) hown (mvT hZ (ow hw 25 rfl)) (mvT hZ (ow hw 26 rfl)) (notFace_of_selects (args := #[]) (mvT hZ (ow hw 28 rfl))) (mvT hZ (ow hw 28 rfl)) (mvT hZ (ow hw 27 rfl)) (by decide) (backOf (W := 0) (rm3d0 l Z a0 hw [] b545 ka_553 ia_554 kk_555 ki_556 (0 : Int32) (0 : Int32) T552.heap n0 Z558 f552_0 f552_1 f552_2 f552_3 f552_4 f552_5 gn_b545 u552_0 u552_2 ne562 ne566 u552_4) hZ (ow hw 29 rfl) (ow hw 11 rfl) (by decide) (by decide)) q567a q567c (g := (mkF m 112 #[.val (.int p0), .val (.int p1), .val (.int 2), .val (.int 0), .val (.ref b519), .val (.ref b545)] [(.ref b545)])) rfl (by rw [hml]; rfl) (Steps.refl _) (argsL := []) (rest := []) (lenOf pd21 rfl) rfl (Nat.le_of_eq rfl) (hb hby at_112) (fun _ _ => ⟨rfl, rfl, (by decide : 6 + 0 ≤ _), (by decide : 43 + 0 ≤ _)⟩)
      dsimp only [Pt.U, Pt.locs, Pt.cells, Pt.slots] at X567 l567 y567 z567 st567 hQ567
      subst l567 y567 z567
      obtain ⟨rfl, N567q, K567, f567_0, f567_1, f567_2, f567_3, f567_4, f567_5⟩ := hQ567
      have N567 := Fr.app N552 N567q
      have hk568 := Nat.le_trans hk557 K567.1
      have Z569 : n0 ≤ T567.heap.size := Nat.le_trans Z558 K567.1
      obtain ⟨cq570, kq570, q570a, q570b, q570c⟩ := isOf hZ rfl f567_0
      obtain ⟨_, _, ⟨T570, L570, k570, n570⟩, -, X570, ⟨Lc570, hQ570, l570, y570, z570⟩, st570⟩ := X567.virtualBack hx (y := oM3) (z := oM3) hown (mvT hZ (ow hw 158 rfl)) (mvT hZ (ow hw 159 rfl)) (notFace_of_selects (args := #[]) (mvT hZ (ow hw 161 rfl))) (mvT hZ (ow hw 161 rfl)) (mvT hZ (ow hw 160 rfl)) (by decide) (backOf (W := 0) (rm29d1 l Z a0 hw [] b545 ka_553 ia_554 kk_555 ki_556 (-1 : Int32) (0 : Int32) T567.heap n0 Z569 f567_0 f567_1 f567_2 f567_3 f567_4 f567_5 gn_b545 u552_0 u552_2 ne562 ne566 u552_4) hZ (ow hw 162 rfl) (ow hw 11 rfl) (by decide) (by decide)) q570a q570c (g := (mkF m 122 #[.val (.int p0), .val (.int p1), .val (.int 2), .val (.int 0), .val (.ref b519), .val (.ref b545)] [(.ref b545)])) rfl (by rw [hml]; rfl) (Steps.refl _) (argsL := []) (rest := []) (lenOf pd21 rfl) rfl (Nat.le_of_eq rfl) (hb hby at_122) (fun _ _ => ⟨rfl, rfl, (by decide : 6 + 0 ≤ _), (by decide : 43 + 0 ≤ _)⟩)
      dsimp only [Pt.U, Pt.locs, Pt.cells, Pt.slots] at X570 l570 y570 z570 st570 hQ570
      subst l570 y570 z570
      obtain ⟨rfl, N570q, K570, f570_0⟩ := hQ570
      have N570 := Fr.app N567 N570q
      have hk571 := Nat.le_trans hk568 K570.1
      have Z572 : n0 ≤ T570.heap.size := Nat.le_trans Z569 K570.1
      have ff573 : Arv Z T570.heap ia_554 ki_556 .int (16 : Int32) [(.int 0), (.int 0)] (.int 0) := by have q := f570_0; rw [show ((-1 : Int32) + (1 : Int32)) = (0 : Int32) from by decide] at q; exact q
      have fa574 := (f567_0.keep K570)
      have fa575 := (f567_1.keep K570 (ninS ne566 nin0))
      have fa576 := (f567_2.keep K570 (ninS ne566 nin0))
      have fa577 := (f567_3.keep K570 (ninS ne566 nin0))
      have fa578 := (f567_4.keep K570 (ninS u552_4 nin0))
      obtain ⟨cq579, kq579, q579a, q579b, q579c⟩ := isOf hZ rfl fa574
      obtain ⟨_, _, ⟨T579, L579, k579, n579⟩, -, X579, ⟨Lc579, hQ579, l579, y579, z579⟩, st579⟩ := X570.virtualBack hx (y := oM3) (z := oM3) hown (mvT hZ (ow hw 158 rfl)) (mvT hZ (ow hw 159 rfl)) (notFace_of_selects (args := #[]) (mvT hZ (ow hw 161 rfl))) (mvT hZ (ow hw 161 rfl)) (mvT hZ (ow hw 160 rfl)) (by decide) (backOf (W := 0) (rm29d1 l Z a0 hw [] b545 ka_553 ia_554 kk_555 ki_556 (0 : Int32) (0 : Int32) T570.heap n0 Z572 fa574 fa575 fa576 fa577 fa578 ff573 gn_b545 u552_0 u552_2 ne562 ne566 u552_4) hZ (ow hw 162 rfl) (ow hw 11 rfl) (by decide) (by decide)) q579a q579c (g := (mkF m 132 #[.val (.int p0), .val (.int p1), .val (.int 2), .val (.int 0), .val (.ref b519), .val (.ref b545)] [(.ref b545)])) rfl (by rw [hml]; rfl) (Steps.refl _) (argsL := []) (rest := []) (lenOf pd21 rfl) rfl (Nat.le_of_eq rfl) (hb hby at_132) (fun _ _ => ⟨rfl, rfl, (by decide : 6 + 0 ≤ _), (by decide : 43 + 0 ≤ _)⟩)
      dsimp only [Pt.U, Pt.locs, Pt.cells, Pt.slots] at X579 l579 y579 z579 st579 hQ579
      subst l579 y579 z579
      obtain ⟨rfl, N579q, K579, f579_0⟩ := hQ579
      have N579 := Fr.app N570 N579q
      have hk580 := Nat.le_trans hk571 K579.1
      have Z581 : n0 ≤ T579.heap.size := Nat.le_trans Z572 K579.1
      have ff582 : Arv Z T579.heap ia_554 ki_556 .int (16 : Int32) [(.int 1), (.int 0)] (.int 0) := by have q := f579_0; rw [show ((0 : Int32) + (1 : Int32)) = (1 : Int32) from by decide] at q; exact q
      have fa583 := (fa574.keep K579)
      have fa584 := (fa575.keep K579 (ninS ne566 nin0))
      have fa585 := (fa576.keep K579 (ninS ne566 nin0))
      have fa586 := (fa577.keep K579 (ninS ne566 nin0))
      have fa587 := (fa578.keep K579 (ninS u552_4 nin0))
      obtain ⟨cq588, kq588, q588a, q588b, q588c⟩ := isOf hZ rfl fa583
      obtain ⟨_, _, ⟨T588, L588, k588, n588⟩, -, X588, ⟨Lc588, hQ588, l588, y588, z588⟩, st588⟩ := X579.virtualBack hx (y := oM2) (z := oM2) hown (mvT hZ (ow hw 25 rfl)) (mvT hZ (ow hw 26 rfl)) (notFace_of_selects (args := #[]) (mvT hZ (ow hw 28 rfl))) (mvT hZ (ow hw 28 rfl)) (mvT hZ (ow hw 27 rfl)) (by decide) (backOf (W := 0) (rm3d1 l Z a0 hw [] b545 ka_553 ia_554 kk_555 ki_556 (1 : Int32) (0 : Int32) T579.heap n0 Z581 fa583 fa584 fa585 fa586 fa587 ff582 gn_b545 u552_0 u552_2 ne562 ne566 u552_4) hZ (ow hw 29 rfl) (ow hw 11 rfl) (by decide) (by decide)) q588a q588c (g := (mkF m 137 #[.val (.int p0), .val (.int p1), .val (.int 2), .val (.int 0), .val (.ref b519), .val (.ref b545)] [(.ref b545)])) rfl (by rw [hml]; rfl) (Steps.refl _) (argsL := []) (rest := []) (lenOf pd21 rfl) rfl (Nat.le_of_eq rfl) (hb hby at_137) (fun _ _ => ⟨rfl, rfl, (by decide : 6 + 0 ≤ _), (by decide : 43 + 0 ≤ _)⟩)
      dsimp only [Pt.U, Pt.locs, Pt.cells, Pt.slots] at X588 l588 y588 z588 st588 hQ588
      subst l588 y588 z588
      obtain ⟨rfl, N588q, K588, f588_0, f588_1, f588_2, f588_3, f588_4, f588_5⟩ := hQ588
      have N588 := Fr.app N579 N588q
      have hk589 := Nat.le_trans hk580 K588.1
      have Z590 : n0 ≤ T588.heap.size := Nat.le_trans Z581 K588.1
      have fa591 := (((((((fa537.keep K538 (allS (P := fun x => n0 ≤ x) gn_b519 all0)).ext E545).keep K552 (allS (P := fun x => n0 ≤ x) gn_b545 all0)).keep K567 (allS (P := fun x => n0 ≤ x) gn_b545 (allS (P := fun x => n0 ≤ x) u552_0 (allS (P := fun x => n0 ≤ x) u552_2 all0)))).keep K570 (allS (P := fun x => n0 ≤ x) u552_2 all0)).keep K579 (allS (P := fun x => n0 ≤ x) u552_2 all0)).keep K588 (allS (P := fun x => n0 ≤ x) gn_b545 (allS (P := fun x => n0 ≤ x) u552_0 (allS (P := fun x => n0 ≤ x) u552_2 all0))))
      obtain ⟨cq592, kq592, q592a, q592b, q592c⟩ := isOf hZ rfl f588_0
      obtain ⟨_, _, ⟨T592, L592, k592, n592⟩, -, X592, ⟨Lc592, hQ592, l592, y592, z592⟩, st592⟩ := X588.virtualBack hx (y := oM28) (z := oM28) hown (mvT hZ (ow hw 36 rfl)) (mvT hZ (ow hw 37 rfl)) (notFace_of_selects (args := #[]) (mvT hZ (ow hw 39 rfl))) (mvT hZ (ow hw 39 rfl)) (mvT hZ (ow hw 38 rfl)) (by decide) (backOf (W := 0) (rm5_1 l Z a0 hw [] b545 ka_553 ia_554 kk_555 ki_556 cs da cd (1 : Int32) (49 : Int32) T588.heap n0 Z590 f588_0 f588_1 f588_2 f588_3 f588_4 f588_5 Cs (by first | assumption | decide | omega) fa591 Dd Da (by first | assumption | decide | omega) (by first | assumption | decide | omega) (by first | assumption | decide | omega) (by first | assumption | decide | omega)) hZ (ow hw 40 rfl) (ow hw 11 rfl) (by decide) (by decide)) q592a q592c (g := (mkF m 162 #[.val (.int p0), .val (.int p1), .val (.int 2), .val (.int 0), .val (.ref b519), .val (.ref b545)] [(.ref b545)])) rfl (by rw [hml]; rfl) (Steps.refl _) (argsL := []) (rest := []) (lenOf pd22 rfl) rfl (Nat.le_of_eq rfl) (hb hby at_162) (fun _ _ => ⟨rfl, rfl, (by decide : 6 + 4 ≤ _), (by decide : 43 + 26 ≤ _)⟩)
      dsimp only [Pt.U, Pt.locs, Pt.cells, Pt.slots] at X592 l592 y592 z592 st592 hQ592
      subst l592 y592 z592
      obtain ⟨sa_593, vb_594, kb_595, rfl, N592q, K592, u592_0, u592_1, u592_2, u592_3, f592_0, f592_1, f592_2, f592_3⟩ := hQ592
      have N592 := Fr.app N588 N592q
      have hk596 := Nat.le_trans hk589 K592.1
      have Z597 : n0 ≤ T592.heap.size := Nat.le_trans Z590 K592.1
      have ne598 : b519 ≠ sa_593 := Nat.ne_of_lt (Nat.lt_of_lt_of_le ((((((f538_0.ext E545).keep K552).keep K567).keep K570).keep K579).keep K588).lt u592_1)
      have ne599 : b522 ≠ sa_593 := Nat.ne_of_lt (Nat.lt_of_lt_of_le ((((((fa547.ext E545).keep K552 (ninS ne548 nin0)).keep K567 (ninS ne548 (ninS ne560 (ninS ne564 nin0)))).keep K570 (ninS ne564 nin0)).keep K579 (ninS ne564 nin0)).keep K588 (ninS ne548 (ninS ne560 (ninS ne564 nin0)))).lt u592_1)
      have ne600 : vb_539 ≠ sa_593 := Nat.ne_of_lt (Nat.lt_of_lt_of_le ((((((f538_3.ext E545).keep K552 (ninS ne549 nin0)).keep K567 (ninS ne549 (ninS ne561 (ninS ne565 nin0)))).keep K570 (ninS ne565 nin0)).keep K579 (ninS ne565 nin0)).keep K588 (ninS ne549 (ninS ne561 (ninS ne565 nin0)))).lt u592_1)
      have ne601 : b545 ≠ sa_593 := Nat.ne_of_lt (Nat.lt_of_lt_of_le f588_0.lt u592_1)
      have ne602 : ka_553 ≠ sa_593 := Nat.ne_of_lt (Nat.lt_of_lt_of_le f588_4.lt u592_1)
      have ne603 : ia_554 ≠ sa_593 := Nat.ne_of_lt (Nat.lt_of_lt_of_le f588_5.lt u592_1)
      have ne604 : b519 ≠ vb_594 := Nat.ne_of_lt (Nat.lt_of_lt_of_le ((((((f538_0.ext E545).keep K552).keep K567).keep K570).keep K579).keep K588).lt u592_3)
      have ne605 : b522 ≠ vb_594 := Nat.ne_of_lt (Nat.lt_of_lt_of_le ((((((fa547.ext E545).keep K552 (ninS ne548 nin0)).keep K567 (ninS ne548 (ninS ne560 (ninS ne564 nin0)))).keep K570 (ninS ne564 nin0)).keep K579 (ninS ne564 nin0)).keep K588 (ninS ne548 (ninS ne560 (ninS ne564 nin0)))).lt u592_3)
      have ne606 : vb_539 ≠ vb_594 := Nat.ne_of_lt (Nat.lt_of_lt_of_le ((((((f538_3.ext E545).keep K552 (ninS ne549 nin0)).keep K567 (ninS ne549 (ninS ne561 (ninS ne565 nin0)))).keep K570 (ninS ne565 nin0)).keep K579 (ninS ne565 nin0)).keep K588 (ninS ne549 (ninS ne561 (ninS ne565 nin0)))).lt u592_3)
      have ne607 : b545 ≠ vb_594 := Nat.ne_of_lt (Nat.lt_of_lt_of_le f588_0.lt u592_3)
      have ne608 : ka_553 ≠ vb_594 := Nat.ne_of_lt (Nat.lt_of_lt_of_le f588_4.lt u592_3)
      have ne609 : ia_554 ≠ vb_594 := Nat.ne_of_lt (Nat.lt_of_lt_of_le f588_5.lt u592_3)
      have fa610 := (((((((f538_0.ext E545).keep K552).keep K567).keep K570).keep K579).keep K588).keep K592)
      have fa611 := (((((((f538_1.ext E545).keep K552 (ninS ne546 nin0)).keep K567 (ninS ne546 (ninS ne559 (ninS ne563 nin0)))).keep K570 (ninS ne563 nin0)).keep K579 (ninS ne563 nin0)).keep K588 (ninS ne546 (ninS ne559 (ninS ne563 nin0)))).keep K592 nin0)
      have fa612 := (((((((f538_2.ext E545).keep K552 (ninS ne546 nin0)).keep K567 (ninS ne546 (ninS ne559 (ninS ne563 nin0)))).keep K570 (ninS ne563 nin0)).keep K579 (ninS ne563 nin0)).keep K588 (ninS ne546 (ninS ne559 (ninS ne563 nin0)))).keep K592 nin0)
      have fa613 := (((((((f538_3.ext E545).keep K552 (ninS ne549 nin0)).keep K567 (ninS ne549 (ninS ne561 (ninS ne565 nin0)))).keep K570 (ninS ne565 nin0)).keep K579 (ninS ne565 nin0)).keep K588 (ninS ne549 (ninS ne561 (ninS ne565 nin0)))).keep K592 nin0)
      have fa614 := (fa591.keep K592 all0)
      obtain ⟨cq615, kq615, q615a, q615b, q615c⟩ := isOf hZ rfl f592_0
      obtain ⟨_, _, ⟨T615, L615, k615, n615⟩, -, X615, ⟨Lc615, hQ615, l615, y615, z615⟩, st615⟩ := X592.virtualBack hx (y := oM30) (z := oM30) hown (mvT hZ (ow hw 114 rfl)) (mvT hZ (ow hw 115 rfl)) (notFace_of_selects (args := #[]) (mvT hZ (ow hw 117 rfl))) (mvT hZ (ow hw 117 rfl)) (mvT hZ (ow hw 116 rfl)) (by decide) (backOf (W := 0) (rm19n2 l Z a0 hw [] sa_593 b519 vb_594 kb_595 vb_539 kb_540 (47 : Int32) (49 : Int32) cs T592.heap n0 Z597 f592_0 f592_1 f592_2 f592_3 fa610 fa611 fa612 fa613 (Ne.symm ne598) Cs (by first | assumption | decide | omega) fa614) hZ (ow hw 118 rfl) (ow hw 2 rfl) (by decide) (by decide)) q615a q615c (g := (mkF m 167 #[.val (.int p0), .val (.int p1), .val (.int 2), .val (.int 0), .val (.ref b519), .val (.ref b545)] [(.ref b519), (.ref sa_593)])) rfl (by rw [hml]; rfl) (Steps.refl _) (argsL := [(.ref b519)]) (rest := []) (lenOf pd32 rfl) rfl (Nat.le_of_eq rfl) (hb hby at_167) (fun _ _ => ⟨rfl, rfl, (by decide : 10 + 0 ≤ _), (by decide : 69 + 0 ≤ _)⟩)
      dsimp only [Pt.U, Pt.locs, Pt.cells, Pt.slots] at X615 l615 y615 z615 st615 hQ615
      subst l615 y615 z615
      obtain ⟨rfl, N615q, e615⟩ := hQ615
      have N615 := Fr.app N592 N615q
      have fa616 := (f588_0.keep K592)
      have fa617 := (f588_2.keep K592 nin0)
      have fa618 := (f588_3.keep K592 nin0)
      have fa619 := (f588_5.keep K592 nin0)
      obtain ⟨cq620, kq620, q620a, q620b, q620c⟩ := isOf hZ e615 fa616
      obtain ⟨_, _, ⟨T620, L620, k620, n620⟩, -, X620, ⟨Lc620, hQ620, l620, y620, z620⟩, st620⟩ := X615.virtualBack hx (y := oM6) (z := oM6) hown (mvT hZ (ow hw 125 rfl)) (mvT hZ (ow hw 126 rfl)) (notFace_of_selects (args := #[]) (mvT hZ (ow hw 128 rfl))) (mvT hZ (ow hw 128 rfl)) (mvT hZ (ow hw 127 rfl)) (by decide) (backOf (W := 0) (rm21m l Z a0 hw [] b545 ia_554 ki_556 (1 : Int32) (-1 : Int32) T592.heap n0 Z597 fa616 fa617 fa618 fa619 (by first | assumption | decide | omega) (by first | assumption | decide | omega)) hZ (ow hw 129 rfl) (ow hw 11 rfl) (by decide) (by decide)) q620a q620c (g := (mkF m 175 #[.val (.int p0), .val (.int p1), .val (.int 2), .val (.int 0), .val (.ref b519), .val (.ref b545)] [(.ref b545)])) rfl (by rw [hml]; rfl) (Steps.refl _) (argsL := []) (rest := []) (lenOf pd2 rfl) rfl (Nat.le_of_eq rfl) (hb hby at_175) (fun _ _ => ⟨rfl, e615, (by decide : 10 + 0 ≤ _), (by decide : 69 + 0 ≤ _)⟩)
      dsimp only [Pt.U, Pt.locs, Pt.cells, Pt.slots] at X620 l620 y620 z620 st620 hQ620
      subst l620 y620 z620
      obtain ⟨rfl, N620q, e620⟩ := hQ620
      have N620 := Fr.app N615 N620q
      obtain ⟨cq621, kq621, q621a, q621b, q621c⟩ := isOf hZ e620 fa616
      obtain ⟨_, _, ⟨T621, L621, k621, n621⟩, -, X621, ⟨Lc621, hQ621, l621, y621, z621⟩, st621⟩ := X620.virtualBack hx (y := oM4) (z := oM4) hown (mvT hZ (ow hw 135 rfl)) (mvT hZ (ow hw 136 rfl)) (notFace_of_selects (args := #[]) (mvT hZ (ow hw 138 rfl))) (mvT hZ (ow hw 138 rfl)) (mvT hZ (ow hw 137 rfl)) (by decide) (backOf (W := 0) (rm23 l Z a0 hw [] b545 T592.heap n0 Z597 fa618) hZ (ow hw 139 rfl) (ow hw 11 rfl) (by decide) (by decide)) q621a q621c (g := (mkF m 192 #[.val (.int p0), .val (.int p1), .val (.int 2), .val (.int 0), .val (.ref b519), .val (.ref b545)] [(.ref b545)])) rfl (by rw [hml]; rfl) (Steps.refl _) (argsL := []) (rest := []) (lenOf pd12 rfl) rfl (Nat.le_of_eq rfl) (hb hby at_192) (fun _ _ => ⟨rfl, e620, (by decide : 10 + 0 ≤ _), (by decide : 69 + 0 ≤ _)⟩)
      dsimp only [Pt.U, Pt.locs, Pt.cells, Pt.slots] at X621 l621 y621 z621 st621 hQ621
      subst l621 y621 z621
      obtain ⟨rfl, N621q, e621⟩ := hQ621
      have N621 := Fr.app N620 N621q
      obtain ⟨fsZ, hrZ, hrun, hended, hRE⟩ := X621.leaveW hS0 (by rw [e621]; exact hk596) (v := some (.int 1)) (fun h => by rw [Bd.returns] at h; cases h)
      refine ⟨_, _, pre1 _ ?_, hrun, hended, _, _, rfl, ?_, hRE.1, hRE.2.1, hRE.2.2.1, hRE.2.2.2.mono (by decide) (by decide)⟩
      · show Steps _ _ _ (s₁.setTop (mkF m 14 #[.val (.int p0), .val (.int p1), .val (.int 2), .val (.int 0), .unset, .unset] [])) _
        refine XS.iloadN X0.here hx rfl (hb hby at_14) rfl  ?_
        refine XS.ifYes X0.here hx rfl (pc0 := 15) (pc' := 25) rfl (hb hby at_15) rfl ((if0 _ _).trans (feq (by decide)).2) (by decide) (by decide) ?_
        refine XS.iloadN X0.here hx rfl (hb hby at_25) rfl  ?_
        refine XS.ifNo X0.here hx rfl (hb hby at_26) rfl ((if0 _ _).trans (teq (by decide)).2) ?_
        show Steps _ _ _ (s₁.setTop (mkF m 29 #[.val (.int p0), .val (.int p1), .val (.int 2), .val (.int 0), .unset, .unset] [])) _
        refine st519 _ ?_
        refine XS.dup X519.here hx rfl (hb hby at_32) rfl rfl ?_
        refine XS.iconst X519.here hx rfl (hb hby at_33) ?_
        show Steps _ _ _ (T519.setTop (mkF m 34 #[.val (.int p0), .val (.int p1), .val (.int 2), .val (.int 0), .unset, .unset] [(.int 2), (.ref b519), (.ref b519)])) _
        refine st522 _ ?_
        refine XS.dup X522.here hx rfl (hb hby at_36) rfl rfl ?_
        refine XS.iconst X522.here hx rfl (hb hby at_37) ?_
        refine XS.bipush X522.here hx rfl (hb hby at_38) ?_
        show Steps _ _ _ (T522.setTop (mkF m 40 #[.val (.int p0), .val (.int p1), .val (.int 2), .val (.int 0), .unset, .unset] [(.int 47), (.int 0), (.ref b522), (.ref b522), (.ref b519), (.ref b519)])) _
        refine st527 _ ?_
        refine XS.dup X527.here hx rfl (hb hby at_41) rfl rfl ?_
        refine XS.iconst X527.here hx rfl (hb hby at_42) ?_
        refine XS.bipush X527.here hx rfl (hb hby at_43) ?_
        refine XS.iloadN X527.here hx rfl (hb hby at_45) rfl  ?_
        refine XS.iadd X527.here hx rfl (hb hby at_46) rfl ?_
        show Steps _ _ _ (T527.setTop (mkF m 47 #[.val (.int p0), .val (.int p1), .val (.int 2), .val (.int 0), .unset, .unset] [(.int ((48 : Int32) + (2 : Int32))), (.int 1), (.ref b522), (.ref b522), (.ref b519), (.ref b519)])) _
        rw [show ((48 : Int32) + (2 : Int32)) = (50 : Int32) from by decide]
        show Steps _ _ _ (T527.setTop (mkF m 47 #[.val (.int p0), .val (.int p1), .val (.int 2), .val (.int 0), .unset, .unset] [(.int 50), (.int 1), (.ref b522), (.ref b522), (.ref b519), (.ref b519)])) _
        refine XS.iconst X527.here hx rfl (hb hby at_47) ?_
        refine XS.isub X527.here hx rfl (hb hby at_48) rfl ?_
        show Steps _ _ _ (T527.setTop (mkF m 49 #[.val (.int p0), .val (.int p1), .val (.int 2), .val (.int 0), .unset, .unset] [(.int ((50 : Int32) - (1 : Int32))), (.int 1), (.ref b522), (.ref b522), (.ref b519), (.ref b519)])) _
        rw [show ((50 : Int32) - (1 : Int32)) = (49 : Int32) from by decide]
        show Steps _ _ _ (T527.setTop (mkF m 49 #[.val (.int p0), .val (.int p1), .val (.int 2), .val (.int 0), .unset, .unset] [(.int 49), (.int 1), (.ref b522), (.ref b522), (.ref b519), (.ref b519)])) _
        refine XS.i2c X527.here hx rfl (hb hby at_49) rfl ?_
        show Steps _ _ _ (T527.setTop (mkF m 50 #[.val (.int p0), .val (.int p1), .val (.int 2), .val (.int 0), .unset, .unset] [(.int ((49 : Int32).toUInt32.toUInt16.toUInt32.toInt32)), (.int 1), (.ref b522), (.ref b522), (.ref b519), (.ref b519)])) _
        rw [show ((49 : Int32).toUInt32.toUInt16.toUInt32.toInt32) = (49 : Int32) from by decide]
        show Steps _ _ _ (T527.setTop (mkF m 50 #[.val (.int p0), .val (.int p1), .val (.int 2), .val (.int 0), .unset, .unset] [(.int 49), (.int 1), (.ref b522), (.ref b522), (.ref b519), (.ref b519)])) _
        refine st531 _ ?_
        show Steps _ _ _ (T531.setTop (mkF m 51 #[.val (.int p0), .val (.int p1), .val (.int 2), .val (.int 0), .unset, .unset] [(.ref b522), (.ref b519), (.ref b519)])) _
        refine st538.trans ?_
        refine XS.astore X538.here hx rfl (hb hby at_54) rfl rfl (l' := #[.val (.int p0), .val (.int p1), .val (.int 2), .val (.int 0), .val (.ref b519), .unset]) rfl ?_
        refine XS.goto X538.here hx rfl (pc0 := 56) (pc' := 101) rfl (hb hby at_56) (by decide) (by decide) ?_
        show Steps _ _ _ (T538.setTop (mkF m 101 #[.val (.int p0), .val (.int p1), .val (.int 2), .val (.int 0), .val (.ref b519), .unset] [])) _
        refine st545 _ ?_
        refine XS.dup X545.here hx rfl (hb hby at_104) rfl rfl ?_
        show Steps _ _ _ (T545.setTop (mkF m 105 #[.val (.int p0), .val (.int p1), .val (.int 2), .val (.int 0), .val (.ref b519), .unset] [(.ref b545), (.ref b545)])) _
        refine st552.trans ?_
        refine XS.astore X552.here hx rfl (hb hby at_108) rfl rfl (l' := #[.val (.int p0), .val (.int p1), .val (.int 2), .val (.int 0), .val (.ref b519), .val (.ref b545)]) rfl ?_
        refine XS.aload X552.here hx rfl (hb hby at_110) rfl rfl ?_
        show Steps _ _ _ (T552.setTop (mkF m 112 #[.val (.int p0), .val (.int p1), .val (.int 2), .val (.int 0), .val (.ref b519), .val (.ref b545)] [(.ref b545)])) _
        refine st567.trans ?_
        refine XS.iloadN X567.here hx rfl (hb hby at_115) rfl  ?_
        refine XS.iconst X567.here hx rfl (hb hby at_116) ?_
        refine XS.icmpNo X567.here hx rfl (hb hby at_117) rfl (flt (by decide)).1 ?_
        refine XS.aload X567.here hx rfl (hb hby at_120) rfl rfl ?_
        show Steps _ _ _ (T567.setTop (mkF m 122 #[.val (.int p0), .val (.int p1), .val (.int 2), .val (.int 0), .val (.ref b519), .val (.ref b545)] [(.ref b545)])) _
        refine st570.trans ?_
        refine XS.iloadN X570.here hx rfl (hb hby at_125) rfl  ?_
        refine XS.iconst X570.here hx rfl (hb hby at_126) ?_
        refine XS.icmpNo X570.here hx rfl (hb hby at_127) rfl (flt (by decide)).1 ?_
        refine XS.aload X570.here hx rfl (hb hby at_130) rfl rfl ?_
        show Steps _ _ _ (T570.setTop (mkF m 132 #[.val (.int p0), .val (.int p1), .val (.int 2), .val (.int 0), .val (.ref b519), .val (.ref b545)] [(.ref b545)])) _
        refine st579.trans ?_
        refine XS.aload X579.here hx rfl (hb hby at_135) rfl rfl ?_
        show Steps _ _ _ (T579.setTop (mkF m 137 #[.val (.int p0), .val (.int p1), .val (.int 2), .val (.int 0), .val (.ref b519), .val (.ref b545)] [(.ref b545)])) _
        refine st588.trans ?_
        refine XS.iloadN X588.here hx rfl (hb hby at_140) rfl  ?_
        refine XS.iconst X588.here hx rfl (hb hby at_141) ?_
        refine XS.icmpYes X588.here hx rfl (pc0 := 142) (pc' := 150) rfl (hb hby at_142) rfl (tlt (by decide)).1 (by decide) (by decide) ?_
        refine XS.iloadN X588.here hx rfl (hb hby at_150) rfl  ?_
        refine XS.iconst X588.here hx rfl (hb hby at_151) ?_
        refine XS.icmpYes X588.here hx rfl (pc0 := 152) (pc' := 160) rfl (hb hby at_152) rfl (tlt (by decide)).1 (by decide) (by decide) ?_
        refine XS.aload X588.here hx rfl (hb hby at_160) rfl rfl ?_
        show Steps _ _ _ (T588.setTop (mkF m 162 #[.val (.int p0), .val (.int p1), .val (.int 2), .val (.int 0), .val (.ref b519), .val (.ref b545)] [(.ref b545)])) _
        refine st592.trans ?_
        refine XS.aload X592.here hx rfl (hb hby at_165) rfl rfl ?_
        show Steps _ _ _ (T592.setTop (mkF m 167 #[.val (.int p0), .val (.int p1), .val (.int 2), .val (.int 0), .val (.ref b519), .val (.ref b545)] [(.ref b519), (.ref sa_593)])) _
        refine st615.trans ?_
        refine XS.ifNo X615.here hx rfl (hb hby at_170) rfl ((if0 _ _).trans (feq (by decide)).1) ?_
        refine XS.aload X615.here hx rfl (hb hby at_173) rfl rfl ?_
        show Steps _ _ _ (T615.setTop (mkF m 175 #[.val (.int p0), .val (.int p1), .val (.int 2), .val (.int 0), .val (.ref b519), .val (.ref b545)] [(.ref b545)])) _
        refine st620.trans ?_
        refine XS.iloadN X620.here hx rfl (hb hby at_178) rfl  ?_
        refine XS.ifNo X620.here hx rfl (hb hby at_179) rfl ((if0 _ _).trans (teq (by decide)).2) ?_
        refine XS.iconst X620.here hx rfl (hb hby at_182) ?_
        refine XS.goto X620.here hx rfl (pc0 := 183) (pc' := 187) rfl (hb hby at_183) (by decide) (by decide) ?_
        refine XS.icmpNo X620.here hx rfl (hb hby at_187) rfl (teq (by decide)).2 ?_
        refine XS.aload X620.here hx rfl (hb hby at_190) rfl rfl ?_
        show Steps _ _ _ (T620.setTop (mkF m 192 #[.val (.int p0), .val (.int p1), .val (.int 2), .val (.int 0), .val (.ref b519), .val (.ref b545)] [(.ref b545)])) _
        refine st621.trans ?_
        refine XS.iconst X621.here hx rfl (hb hby at_195) ?_
        refine XS.icmpNo X621.here hx rfl (hb hby at_196) rfl (teq (by decide)).2 ?_
        refine XS.iconst X621.here hx rfl (hb hby at_199) ?_
        refine XS.goto X621.here hx rfl (pc0 := 200) (pc' := 204) rfl (hb hby at_200) (by decide) (by decide) ?_
        show Steps _ _ _ (T621.setTop (mkF m 204 #[.val (.int p0), .val (.int p1), .val (.int 2), .val (.int 0), .val (.ref b519), .val (.ref b545)] [(.int 1)])) _
        exact retN X621 hx (t := .boolean) Bd.returns (by simp) (hb hby at_204) hrZ
      · show Q0 Z p0 p1 cs da cd h0 n0 _ T621.heap _
        rw [e621]
        exact ⟨rfl, N621⟩
    ·  -- k2 = 1
      obtain ⟨T622, h622, X622, e622, E622, A622, D622, -, st622⟩ := newO X0 hx hZ hown (ow hw 140 rfl) (ow hw 3 rfl) (ow hw 2 rfl) e0 (g := (mkF m 59 #[.val (.int p0), .val (.int p1), .val (.int 2), .val (.int 1), .unset, .unset] [])) rfl (hb hby at_59) (by decide) (by decide)
      obtain ⟨b622, g622⟩ : ∃ z, z = h0.size := ⟨_, rfl⟩
      rw [← g622] at A622 D622 st622
      have gn_b622 : n0 ≤ b622 := Nat.le_trans Z0 (Nat.le_of_eq g622.symm)
      have hk623 := Nat.le_trans hk0 E622.1
      have Z624 : n0 ≤ h622.size := Nat.le_trans Z0 E622.1
      have F_value_b622 : Fld Z h622 b622 oS "value" "[B" .null := D622 (Or.inr (ow hw 5 rfl)) (ty := (.array .byte)) (by decide)
      have F_coder_b622 : Fld Z h622 b622 oS "coder" "B" (.int 0) := D622 (Or.inr (ow hw 6 rfl)) (ty := .byte) (by decide)
      obtain ⟨T625, h625, k625, X625, e625, E625, A625, st625⟩ := newP X622 hx hZ (ow hw 141 rfl) e622 (g := (mkF m 64 #[.val (.int p0), .val (.int p1), .val (.int 2), .val (.int 1), .unset, .unset] [(.int 4), (.ref b622), (.ref b622)])) rfl (hb hby at_64) rfl (by decide) (cap := 4) (by decide) (by decide) (by decide) (by decide)
      obtain ⟨b625, g625⟩ : ∃ z, z = h622.size := ⟨_, rfl⟩
      rw [← g625] at A625 st625
      have ne626 : b622 ≠ b625 := Nat.ne_of_lt (Nat.lt_of_lt_of_le A622.lt (Nat.le_of_eq g625.symm))
      have gn_b625 : n0 ≤ b625 := Nat.le_trans Z624 (Nat.le_of_eq g625.symm)
      have hk627 := Nat.le_trans hk623 E625.1
      have Z628 : n0 ≤ h625.size := Nat.le_trans Z624 E625.1
      have V625 : Arv Z h625 b625 k625 .char (4 : Int32) [(.int 0), (.int 0), (.int 0), (.int 0)] (.int 0) := (Arv.new A625 (by decide)).pad (pad_rep [] (.int 0) 4)
      obtain ⟨c629, Arc629, qc629, Sc629, Mc629, Hc629, Gc629⟩ := id V625
      have hinc629 : ¬ ((0 : Int32) < 0 ∨ c629.slots.size ≤ ((0 : Int32)).toNatClampNeg) := inb_of Sc629 ⟨by decide, by decide⟩
      obtain ⟨T630, h630, X630, e630, W630, st630⟩ := stC X625 hx hZ e625 Arc629 (j := (0 : Int32)) hinc629  (g := (mkF m 70 #[.val (.int p0), .val (.int p1), .val (.int 2), .val (.int 1), .unset, .unset] [(.int 47), (.int 0), (.ref b625), (.ref b625), (.ref b622), (.ref b622)])) rfl rfl (hb hby at_70)
      have V630 : Arv Z h630 b625 k625 .char (4 : Int32) [(.int 47), (.int 0), (.int 0), (.int 0)] (.int 0) := Arv.set Arc629 qc629 Sc629 Mc629 Hc629 Gc629 (fits_nar_char _) W630 0 rfl (Nat.le_of_ble_eq_true rfl)
      have hk631 := Nat.le_trans hk627 (Nat.le_of_eq W630.size.symm)
      have Z632 : n0 ≤ h630.size := Nat.le_trans Z628 (Nat.le_of_eq W630.size.symm)
      have N630 := Fr.snoc X630 N0 gn_b625
      obtain ⟨c633, Arc633, qc633, Sc633, Mc633, Hc633, Gc633⟩ := id V630
      have hinc633 : ¬ ((1 : Int32) < 0 ∨ c633.slots.size ≤ ((1 : Int32)).toNatClampNeg) := inb_of Sc633 ⟨by decide, by decide⟩
      obtain ⟨T634, h634, X634, e634, W634, st634⟩ := stC X630 hx hZ e630 Arc633 (j := (1 : Int32)) hinc633  (g := (mkF m 80 #[.val (.int p0), .val (.int p1), .val (.int 2), .val (.int 1), .unset, .unset] [(.int 49), (.int 1), (.ref b625), (.ref b625), (.ref b622), (.ref b622)])) rfl rfl (hb hby at_80)
      have V634 : Arv Z h634 b625 k625 .char (4 : Int32) [(.int 47), (.int 49), (.int 0), (.int 0)] (.int 0) := Arv.set Arc633 qc633 Sc633 Mc633 Hc633 Gc633 (fits_nar_char _) W634 1 rfl (Nat.le_of_ble_eq_true rfl)
      have hk635 := Nat.le_trans hk631 (Nat.le_of_eq W634.size.symm)
      have Z636 : n0 ≤ h634.size := Nat.le_trans Z632 (Nat.le_of_eq W634.size.symm)
      have N634 := Fr.snoc X634 N630 gn_b625
      obtain ⟨c637, Arc637, qc637, Sc637, Mc637, Hc637, Gc637⟩ := id V634
      have hinc637 : ¬ ((2 : Int32) < 0 ∨ c637.slots.size ≤ ((2 : Int32)).toNatClampNeg) := inb_of Sc637 ⟨by decide, by decide⟩
      obtain ⟨T638, h638, X638, e638, W638, st638⟩ := stC X634 hx hZ e634 Arc637 (j := (2 : Int32)) hinc637  (g := (mkF m 85 #[.val (.int p0), .val (.int p1), .val (.int 2), .val (.int 1), .unset, .unset] [(.int 47), (.int 2), (.ref b625), (.ref b625), (.ref b622), (.ref b622)])) rfl rfl (hb hby at_85)
      have V638 : Arv Z h638 b625 k625 .char (4 : Int32) [(.int 47), (.int 49), (.int 47), (.int 0)] (.int 0) := Arv.set Arc637 qc637 Sc637 Mc637 Hc637 Gc637 (fits_nar_char _) W638 2 rfl (Nat.le_of_ble_eq_true rfl)
      have hk639 := Nat.le_trans hk635 (Nat.le_of_eq W638.size.symm)
      have Z640 : n0 ≤ h638.size := Nat.le_trans Z636 (Nat.le_of_eq W638.size.symm)
      have N638 := Fr.snoc X638 N634 gn_b625
      obtain ⟨c641, Arc641, qc641, Sc641, Mc641, Hc641, Gc641⟩ := id V638
      have hinc641 : ¬ ((3 : Int32) < 0 ∨ c641.slots.size ≤ ((3 : Int32)).toNatClampNeg) := inb_of Sc641 ⟨by decide, by decide⟩
      obtain ⟨T642, h642, X642, e642, W642, st642⟩ := stC X638 hx hZ e638 Arc641 (j := (3 : Int32)) hinc641  (g := (mkF m 95 #[.val (.int p0), .val (.int p1), .val (.int 2), .val (.int 1), .unset, .unset] [(.int 48), (.int 3), (.ref b625), (.ref b625), (.ref b622), (.ref b622)])) rfl rfl (hb hby at_95)
      have V642 : Arv Z h642 b625 k625 .char (4 : Int32) [(.int 47), (.int 49), (.int 47), (.int 48)] (.int 0) := Arv.set Arc641 qc641 Sc641 Mc641 Hc641 Gc641 (fits_nar_char _) W642 3 rfl (Nat.le_of_ble_eq_true rfl)
      have hk643 := Nat.le_trans hk639 (Nat.le_of_eq W642.size.symm)
      have Z644 : n0 ≤ h642.size := Nat.le_trans Z640 (Nat.le_of_eq W642.size.symm)
      have N642 := Fr.snoc X642 N638 gn_b625
      have fa645 := (((((A622.ext E625).wr W630).wr W634).wr W638).wr W642)
      have fa646 := (((((F_coder_b622.ext E625).other W630 (Or.inl ne626)).other W634 (Or.inl ne626)).other W638 (Or.inl ne626)).other W642 (Or.inl ne626))
      have fa647 := (((((F_value_b622.ext E625).other W630 (Or.inl ne626)).other W634 (Or.inl ne626)).other W638 (Or.inl ne626)).other W642 (Or.inl ne626))
      have fa648 := ((((((Ox.ext E622).ext E625).wr W630 gn_b625).wr W634 gn_b625).wr W638 gn_b625).wr W642 gn_b625)
      obtain ⟨_, _, ⟨T649, L649, k649, n649⟩, -, X649, ⟨Lc649, hQ649, l649, y649, z649⟩, st649⟩ := X642.specialBack hx (y := oM35) rfl hown (mvT hZ (ow hw 142 rfl)) (mvT hZ (ow hw 143 rfl)) (mvT hZ (ow hw 144 rfl)) (by decide) (backOf (W := 1) (rm24n4 l Z a0 hw [] b622 b625 (.int 0) .null k625 (47 : Int32) (49 : Int32) (47 : Int32) (48 : Int32) cs h642 n0 Z644 fa645 fa646 fa647 gn_b622 V642 ne626 (by first | assumption | decide | omega) (by first | assumption | decide | omega) (by first | assumption | decide | omega) (by first | assumption | decide | omega) (by first | assumption | decide | omega) (by first | assumption | decide | omega) (by first | assumption | decide | omega) (by first | assumption | decide | omega) Cs (by first | assumption | decide | omega) fa648) hZ (ow hw 144 rfl) (ow hw 2 rfl) (by decide) (by decide)) (g := (mkF m 96 #[.val (.int p0), .val (.int p1), .val (.int 2), .val (.int 1), .unset, .unset] [(.ref b625), (.ref b622), (.ref b622)])) rfl (by rw [hml]; rfl) (Steps.refl _) (a := b622) (argsL := [(.ref b625)]) (rest := [(.ref b622)]) (lenOf pd33 rfl) rfl (Nat.le_of_eq rfl) (hb hby at_96) (fun _ _ => ⟨rfl, e642, (by decide : 2 + 1 ≤ _), (by decide : 8 + 4 ≤ _)⟩)
      dsimp only [Pt.U, Pt.locs, Pt.cells, Pt.slots] at X649 l649 y649 z649 st649 hQ649
      subst l649 y649 z649
      obtain ⟨vb_650, kb_651, rfl, N649q, K649, u649_0, u649_1, f649_0, f649_1, f649_2, f649_3⟩ := hQ649
      have N649 := Fr.app N642 N649q
      have hk652 := Nat.le_trans hk643 K649.1
      have Z653 : n0 ≤ T649.heap.size := Nat.le_trans Z644 K649.1
      have ne654 : b622 ≠ vb_650 := Nat.ne_of_lt (Nat.lt_of_lt_of_le fa645.lt u649_1)
      have ne655 : b625 ≠ vb_650 := Nat.ne_of_lt (Nat.lt_of_lt_of_le V642.lt u649_1)
      obtain ⟨T656, h656, X656, e656, E656, A656, D656, -, st656⟩ := newO X649 hx hZ hown (ow hw 9 rfl) (ow hw 10 rfl) (ow hw 11 rfl) rfl (g := (mkF m 101 #[.val (.int p0), .val (.int p1), .val (.int 2), .val (.int 1), .val (.ref b622), .unset] [])) rfl (hb hby at_101) (by decide) (by decide)
      obtain ⟨b656, g656⟩ : ∃ z, z = T649.heap.size := ⟨_, rfl⟩
      rw [← g656] at A656 D656 st656
      have ne657 : b622 ≠ b656 := Nat.ne_of_lt (Nat.lt_of_lt_of_le f649_0.lt (Nat.le_of_eq g656.symm))
      have fa658 := (V642.keep K649 (ninS (Ne.symm ne626) nin0))
      have ne659 : b625 ≠ b656 := Nat.ne_of_lt (Nat.lt_of_lt_of_le fa658.lt (Nat.le_of_eq g656.symm))
      have ne660 : vb_650 ≠ b656 := Nat.ne_of_lt (Nat.lt_of_lt_of_le f649_3.lt (Nat.le_of_eq g656.symm))
      have gn_b656 : n0 ≤ b656 := Nat.le_trans Z653 (Nat.le_of_eq g656.symm)
      have hk661 := Nat.le_trans hk652 E656.1
      have Z662 : n0 ≤ h656.size := Nat.le_trans Z653 E656.1
      have F_keys_b656 : Fld Z h656 b656 oJ "keys" "[Ljava/lang/String;" .null := D656 (Or.inl (ow hw 21 rfl)) (ty := (.array (.object oS))) (by decide)
      have F_indexes_b656 : Fld Z h656 b656 oJ "indexes" "[I" .null := D656 (Or.inl (ow hw 24 rfl)) (ty := (.array .int)) (by decide)
      have F_depth_b656 : Fld Z h656 b656 oJ "depth" "I" (.int 0) := D656 (Or.inl (ow hw 35 rfl)) (ty := .int) (by decide)
      obtain ⟨_, _, ⟨T663, L663, k663, n663⟩, -, X663, ⟨Lc663, hQ663, l663, y663, z663⟩, st663⟩ := X656.specialBack hx (y := oM0) rfl hown (mvT hZ (ow hw 12 rfl)) (mvT hZ (ow hw 13 rfl)) (mvT hZ (ow hw 14 rfl)) (by decide) (backOf (W := 1) (rm1 l Z a0 hw [] b656 .null .null h656 n0 Z662 A656 F_keys_b656 F_indexes_b656 F_depth_b656 gn_b656) hZ (ow hw 14 rfl) (ow hw 11 rfl) (by decide) (by decide)) (g := (mkF m 105 #[.val (.int p0), .val (.int p1), .val (.int 2), .val (.int 1), .val (.ref b622), .unset] [(.ref b656), (.ref b656)])) rfl (by rw [hml]; rfl) (Steps.refl _) (a := b656) (argsL := []) (rest := [(.ref b656)]) (lenOf pd21 rfl) rfl (Nat.le_of_eq rfl) (hb hby at_105) (fun _ _ => ⟨rfl, e656, (by decide : 4 + 2 ≤ _), (by decide : 15 + 32 ≤ _)⟩)
      dsimp only [Pt.U, Pt.locs, Pt.cells, Pt.slots] at X663 l663 y663 z663 st663 hQ663
      subst l663 y663 z663
      obtain ⟨ka_664, ia_665, kk_666, ki_667, rfl, N663q, K663, u663_0, u663_1, u663_2, u663_3, u663_4, f663_0, f663_1, f663_2, f663_3, f663_4, f663_5⟩ := hQ663
      have N663 := Fr.app N649 N663q
      have hk668 := Nat.le_trans hk661 K663.1
      have Z669 : n0 ≤ T663.heap.size := Nat.le_trans Z662 K663.1
      have ne670 : b622 ≠ ka_664 := Nat.ne_of_lt (Nat.lt_of_lt_of_le (f649_0.ext E656).lt u663_1)
      have ne671 : b625 ≠ ka_664 := Nat.ne_of_lt (Nat.lt_of_lt_of_le (fa658.ext E656).lt u663_1)
      have ne672 : vb_650 ≠ ka_664 := Nat.ne_of_lt (Nat.lt_of_lt_of_le (f649_3.ext E656).lt u663_1)
      have ne673 : b656 ≠ ka_664 := Nat.ne_of_lt (Nat.lt_of_lt_of_le A656.lt u663_1)
      have ne674 : b622 ≠ ia_665 := Nat.ne_of_lt (Nat.lt_of_lt_of_le (f649_0.ext E656).lt u663_3)
      have ne675 : b625 ≠ ia_665 := Nat.ne_of_lt (Nat.lt_of_lt_of_le (fa658.ext E656).lt u663_3)
      have ne676 : vb_650 ≠ ia_665 := Nat.ne_of_lt (Nat.lt_of_lt_of_le (f649_3.ext E656).lt u663_3)
      have ne677 : b656 ≠ ia_665 := Nat.ne_of_lt (Nat.lt_of_lt_of_le A656.lt u663_3)
      obtain ⟨cq678, kq678, q678a, q678b, q678c⟩ := isOf hZ rfl f663_0
      obtain ⟨_, _, ⟨T678, L678, k678, n678⟩, -, X678, ⟨Lc678, hQ678, l678, y678, z678⟩, st678⟩ := X663.virtualBack hx (y := oM2) (z := oM2) hown (mvT hZ (ow hw 25 rfl)) (mvT hZ (ow hw 26 rfl)) (notFace_of_selects (args := #[]) (mvT hZ (ow hw 28 rfl))) (mvT hZ (ow hw 28 rfl)) (mvT hZ (ow hw 27 rfl)) (by decide) (backOf (W := 0) (rm3d0 l Z a0 hw [] b656 ka_664 ia_665 kk_666 ki_667 (0 : Int32) (0 : Int32) T663.heap n0 Z669 f663_0 f663_1 f663_2 f663_3 f663_4 f663_5 gn_b656 u663_0 u663_2 ne673 ne677 u663_4) hZ (ow hw 29 rfl) (ow hw 11 rfl) (by decide) (by decide)) q678a q678c (g := (mkF m 112 #[.val (.int p0), .val (.int p1), .val (.int 2), .val (.int 1), .val (.ref b622), .val (.ref b656)] [(.ref b656)])) rfl (by rw [hml]; rfl) (Steps.refl _) (argsL := []) (rest := []) (lenOf pd21 rfl) rfl (Nat.le_of_eq rfl) (hb hby at_112) (fun _ _ => ⟨rfl, rfl, (by decide : 6 + 0 ≤ _), (by decide : 47 + 0 ≤ _)⟩)
      dsimp only [Pt.U, Pt.locs, Pt.cells, Pt.slots] at X678 l678 y678 z678 st678 hQ678
      subst l678 y678 z678
      obtain ⟨rfl, N678q, K678, f678_0, f678_1, f678_2, f678_3, f678_4, f678_5⟩ := hQ678
      have N678 := Fr.app N663 N678q
      have hk679 := Nat.le_trans hk668 K678.1
      have Z680 : n0 ≤ T678.heap.size := Nat.le_trans Z669 K678.1
      obtain ⟨cq681, kq681, q681a, q681b, q681c⟩ := isOf hZ rfl f678_0
      obtain ⟨_, _, ⟨T681, L681, k681, n681⟩, -, X681, ⟨Lc681, hQ681, l681, y681, z681⟩, st681⟩ := X678.virtualBack hx (y := oM3) (z := oM3) hown (mvT hZ (ow hw 158 rfl)) (mvT hZ (ow hw 159 rfl)) (notFace_of_selects (args := #[]) (mvT hZ (ow hw 161 rfl))) (mvT hZ (ow hw 161 rfl)) (mvT hZ (ow hw 160 rfl)) (by decide) (backOf (W := 0) (rm29d1 l Z a0 hw [] b656 ka_664 ia_665 kk_666 ki_667 (-1 : Int32) (0 : Int32) T678.heap n0 Z680 f678_0 f678_1 f678_2 f678_3 f678_4 f678_5 gn_b656 u663_0 u663_2 ne673 ne677 u663_4) hZ (ow hw 162 rfl) (ow hw 11 rfl) (by decide) (by decide)) q681a q681c (g := (mkF m 122 #[.val (.int p0), .val (.int p1), .val (.int 2), .val (.int 1), .val (.ref b622), .val (.ref b656)] [(.ref b656)])) rfl (by rw [hml]; rfl) (Steps.refl _) (argsL := []) (rest := []) (lenOf pd21 rfl) rfl (Nat.le_of_eq rfl) (hb hby at_122) (fun _ _ => ⟨rfl, rfl, (by decide : 6 + 0 ≤ _), (by decide : 47 + 0 ≤ _)⟩)
      dsimp only [Pt.U, Pt.locs, Pt.cells, Pt.slots] at X681 l681 y681 z681 st681 hQ681
      subst l681 y681 z681
      obtain ⟨rfl, N681q, K681, f681_0⟩ := hQ681
      have N681 := Fr.app N678 N681q
      have hk682 := Nat.le_trans hk679 K681.1
      have Z683 : n0 ≤ T681.heap.size := Nat.le_trans Z680 K681.1
      have ff684 : Arv Z T681.heap ia_665 ki_667 .int (16 : Int32) [(.int 0), (.int 0)] (.int 0) := by have q := f681_0; rw [show ((-1 : Int32) + (1 : Int32)) = (0 : Int32) from by decide] at q; exact q
      have fa685 := (f678_0.keep K681)
      have fa686 := (f678_1.keep K681 (ninS ne677 nin0))
      have fa687 := (f678_2.keep K681 (ninS ne677 nin0))
      have fa688 := (f678_3.keep K681 (ninS ne677 nin0))
      have fa689 := (f678_4.keep K681 (ninS u663_4 nin0))
      obtain ⟨cq690, kq690, q690a, q690b, q690c⟩ := isOf hZ rfl fa685
      obtain ⟨_, _, ⟨T690, L690, k690, n690⟩, -, X690, ⟨Lc690, hQ690, l690, y690, z690⟩, st690⟩ := X681.virtualBack hx (y := oM3) (z := oM3) hown (mvT hZ (ow hw 158 rfl)) (mvT hZ (ow hw 159 rfl)) (notFace_of_selects (args := #[]) (mvT hZ (ow hw 161 rfl))) (mvT hZ (ow hw 161 rfl)) (mvT hZ (ow hw 160 rfl)) (by decide) (backOf (W := 0) (rm29d1 l Z a0 hw [] b656 ka_664 ia_665 kk_666 ki_667 (0 : Int32) (0 : Int32) T681.heap n0 Z683 fa685 fa686 fa687 fa688 fa689 ff684 gn_b656 u663_0 u663_2 ne673 ne677 u663_4) hZ (ow hw 162 rfl) (ow hw 11 rfl) (by decide) (by decide)) q690a q690c (g := (mkF m 132 #[.val (.int p0), .val (.int p1), .val (.int 2), .val (.int 1), .val (.ref b622), .val (.ref b656)] [(.ref b656)])) rfl (by rw [hml]; rfl) (Steps.refl _) (argsL := []) (rest := []) (lenOf pd21 rfl) rfl (Nat.le_of_eq rfl) (hb hby at_132) (fun _ _ => ⟨rfl, rfl, (by decide : 6 + 0 ≤ _), (by decide : 47 + 0 ≤ _)⟩)
      dsimp only [Pt.U, Pt.locs, Pt.cells, Pt.slots] at X690 l690 y690 z690 st690 hQ690
      subst l690 y690 z690
      obtain ⟨rfl, N690q, K690, f690_0⟩ := hQ690
      have N690 := Fr.app N681 N690q
      have hk691 := Nat.le_trans hk682 K690.1
      have Z692 : n0 ≤ T690.heap.size := Nat.le_trans Z683 K690.1
      have ff693 : Arv Z T690.heap ia_665 ki_667 .int (16 : Int32) [(.int 1), (.int 0)] (.int 0) := by have q := f690_0; rw [show ((0 : Int32) + (1 : Int32)) = (1 : Int32) from by decide] at q; exact q
      have fa694 := (fa685.keep K690)
      have fa695 := (fa686.keep K690 (ninS ne677 nin0))
      have fa696 := (fa687.keep K690 (ninS ne677 nin0))
      have fa697 := (fa688.keep K690 (ninS ne677 nin0))
      have fa698 := (fa689.keep K690 (ninS u663_4 nin0))
      obtain ⟨cq699, kq699, q699a, q699b, q699c⟩ := isOf hZ rfl fa694
      obtain ⟨_, _, ⟨T699, L699, k699, n699⟩, -, X699, ⟨Lc699, hQ699, l699, y699, z699⟩, st699⟩ := X690.virtualBack hx (y := oM2) (z := oM2) hown (mvT hZ (ow hw 25 rfl)) (mvT hZ (ow hw 26 rfl)) (notFace_of_selects (args := #[]) (mvT hZ (ow hw 28 rfl))) (mvT hZ (ow hw 28 rfl)) (mvT hZ (ow hw 27 rfl)) (by decide) (backOf (W := 0) (rm3d1 l Z a0 hw [] b656 ka_664 ia_665 kk_666 ki_667 (1 : Int32) (0 : Int32) T690.heap n0 Z692 fa694 fa695 fa696 fa697 fa698 ff693 gn_b656 u663_0 u663_2 ne673 ne677 u663_4) hZ (ow hw 29 rfl) (ow hw 11 rfl) (by decide) (by decide)) q699a q699c (g := (mkF m 137 #[.val (.int p0), .val (.int p1), .val (.int 2), .val (.int 1), .val (.ref b622), .val (.ref b656)] [(.ref b656)])) rfl (by rw [hml]; rfl) (Steps.refl _) (argsL := []) (rest := []) (lenOf pd21 rfl) rfl (Nat.le_of_eq rfl) (hb hby at_137) (fun _ _ => ⟨rfl, rfl, (by decide : 6 + 0 ≤ _), (by decide : 47 + 0 ≤ _)⟩)
      dsimp only [Pt.U, Pt.locs, Pt.cells, Pt.slots] at X699 l699 y699 z699 st699 hQ699
      subst l699 y699 z699
      obtain ⟨rfl, N699q, K699, f699_0, f699_1, f699_2, f699_3, f699_4, f699_5⟩ := hQ699
      have N699 := Fr.app N690 N699q
      have hk700 := Nat.le_trans hk691 K699.1
      have Z701 : n0 ≤ T699.heap.size := Nat.le_trans Z692 K699.1
      obtain ⟨cq702, kq702, q702a, q702b, q702c⟩ := isOf hZ rfl f699_0
      obtain ⟨_, _, ⟨T702, L702, k702, n702⟩, -, X702, ⟨Lc702, hQ702, l702, y702, z702⟩, st702⟩ := X699.virtualBack hx (y := oM3) (z := oM3) hown (mvT hZ (ow hw 158 rfl)) (mvT hZ (ow hw 159 rfl)) (notFace_of_selects (args := #[]) (mvT hZ (ow hw 161 rfl))) (mvT hZ (ow hw 161 rfl)) (mvT hZ (ow hw 160 rfl)) (by decide) (backOf (W := 0) (rm29d2 l Z a0 hw [] b656 ka_664 ia_665 kk_666 ki_667 (1 : Int32) (-1 : Int32) T699.heap n0 Z701 f699_0 f699_1 f699_2 f699_3 f699_4 f699_5 gn_b656 u663_0 u663_2 ne673 ne677 u663_4) hZ (ow hw 162 rfl) (ow hw 11 rfl) (by decide) (by decide)) q702a q702c (g := (mkF m 147 #[.val (.int p0), .val (.int p1), .val (.int 2), .val (.int 1), .val (.ref b622), .val (.ref b656)] [(.ref b656)])) rfl (by rw [hml]; rfl) (Steps.refl _) (argsL := []) (rest := []) (lenOf pd21 rfl) rfl (Nat.le_of_eq rfl) (hb hby at_147) (fun _ _ => ⟨rfl, rfl, (by decide : 6 + 0 ≤ _), (by decide : 47 + 0 ≤ _)⟩)
      dsimp only [Pt.U, Pt.locs, Pt.cells, Pt.slots] at X702 l702 y702 z702 st702 hQ702
      subst l702 y702 z702
      obtain ⟨rfl, N702q, K702, f702_0⟩ := hQ702
      have N702 := Fr.app N699 N702q
      have hk703 := Nat.le_trans hk700 K702.1
      have Z704 : n0 ≤ T702.heap.size := Nat.le_trans Z701 K702.1
      have ff705 : Arv Z T702.heap ia_665 ki_667 .int (16 : Int32) [(.int 1), (.int 0)] (.int 0) := by have q := f702_0; rw [show ((-1 : Int32) + (1 : Int32)) = (0 : Int32) from by decide] at q; exact q
      have fa706 := (f699_0.keep K702)
      have fa707 := (f699_1.keep K702 (ninS ne677 nin0))
      have fa708 := (f699_2.keep K702 (ninS ne677 nin0))
      have fa709 := (f699_3.keep K702 (ninS ne677 nin0))
      have fa710 := (f699_4.keep K702 (ninS u663_4 nin0))
      have fa711 := ((((((((fa648.keep K649 (allS (P := fun x => n0 ≤ x) gn_b622 all0)).ext E656).keep K663 (allS (P := fun x => n0 ≤ x) gn_b656 all0)).keep K678 (allS (P := fun x => n0 ≤ x) gn_b656 (allS (P := fun x => n0 ≤ x) u663_0 (allS (P := fun x => n0 ≤ x) u663_2 all0)))).keep K681 (allS (P := fun x => n0 ≤ x) u663_2 all0)).keep K690 (allS (P := fun x => n0 ≤ x) u663_2 all0)).keep K699 (allS (P := fun x => n0 ≤ x) gn_b656 (allS (P := fun x => n0 ≤ x) u663_0 (allS (P := fun x => n0 ≤ x) u663_2 all0)))).keep K702 (allS (P := fun x => n0 ≤ x) u663_2 all0))
      obtain ⟨cq712, kq712, q712a, q712b, q712c⟩ := isOf hZ rfl fa706
      obtain ⟨_, _, ⟨T712, L712, k712, n712⟩, -, X712, ⟨Lc712, hQ712, l712, y712, z712⟩, st712⟩ := X702.virtualBack hx (y := oM28) (z := oM28) hown (mvT hZ (ow hw 36 rfl)) (mvT hZ (ow hw 37 rfl)) (notFace_of_selects (args := #[]) (mvT hZ (ow hw 39 rfl))) (mvT hZ (ow hw 39 rfl)) (mvT hZ (ow hw 38 rfl)) (by decide) (backOf (W := 0) (rm5_2 l Z a0 hw [] b656 ka_664 ia_665 kk_666 ki_667 cs da cd (1 : Int32) (0 : Int32) (49 : Int32) (48 : Int32) T702.heap n0 Z704 fa706 fa707 fa708 fa709 fa710 ff705 Cs (by first | assumption | decide | omega) fa711 Dd Da (by first | assumption | decide | omega) (by first | assumption | decide | omega) (by first | assumption | decide | omega) (by first | assumption | decide | omega) (by first | assumption | decide | omega) (by first | assumption | decide | omega) (by first | assumption | decide | omega)) hZ (ow hw 40 rfl) (ow hw 11 rfl) (by decide) (by decide)) q712a q712c (g := (mkF m 162 #[.val (.int p0), .val (.int p1), .val (.int 2), .val (.int 1), .val (.ref b622), .val (.ref b656)] [(.ref b656)])) rfl (by rw [hml]; rfl) (Steps.refl _) (argsL := []) (rest := []) (lenOf pd22 rfl) rfl (Nat.le_of_eq rfl) (hb hby at_162) (fun _ _ => ⟨rfl, rfl, (by decide : 6 + 4 ≤ _), (by decide : 47 + 28 ≤ _)⟩)
      dsimp only [Pt.U, Pt.locs, Pt.cells, Pt.slots] at X712 l712 y712 z712 st712 hQ712
      subst l712 y712 z712
      obtain ⟨sa_713, vb_714, kb_715, rfl, N712q, K712, u712_0, u712_1, u712_2, u712_3, f712_0, f712_1, f712_2, f712_3⟩ := hQ712
      have N712 := Fr.app N702 N712q
      have hk716 := Nat.le_trans hk703 K712.1
      have Z717 : n0 ≤ T712.heap.size := Nat.le_trans Z704 K712.1
      have ne718 : b622 ≠ sa_713 := Nat.ne_of_lt (Nat.lt_of_lt_of_le (((((((f649_0.ext E656).keep K663).keep K678).keep K681).keep K690).keep K699).keep K702).lt u712_1)
      have ne719 : b625 ≠ sa_713 := Nat.ne_of_lt (Nat.lt_of_lt_of_le (((((((fa658.ext E656).keep K663 (ninS ne659 nin0)).keep K678 (ninS ne659 (ninS ne671 (ninS ne675 nin0)))).keep K681 (ninS ne675 nin0)).keep K690 (ninS ne675 nin0)).keep K699 (ninS ne659 (ninS ne671 (ninS ne675 nin0)))).keep K702 (ninS ne675 nin0)).lt u712_1)
      have ne720 : vb_650 ≠ sa_713 := Nat.ne_of_lt (Nat.lt_of_lt_of_le (((((((f649_3.ext E656).keep K663 (ninS ne660 nin0)).keep K678 (ninS ne660 (ninS ne672 (ninS ne676 nin0)))).keep K681 (ninS ne676 nin0)).keep K690 (ninS ne676 nin0)).keep K699 (ninS ne660 (ninS ne672 (ninS ne676 nin0)))).keep K702 (ninS ne676 nin0)).lt u712_1)
      have ne721 : b656 ≠ sa_713 := Nat.ne_of_lt (Nat.lt_of_lt_of_le fa706.lt u712_1)
      have ne722 : ka_664 ≠ sa_713 := Nat.ne_of_lt (Nat.lt_of_lt_of_le fa710.lt u712_1)
      have ne723 : ia_665 ≠ sa_713 := Nat.ne_of_lt (Nat.lt_of_lt_of_le ff705.lt u712_1)
      have ne724 : b622 ≠ vb_714 := Nat.ne_of_lt (Nat.lt_of_lt_of_le (((((((f649_0.ext E656).keep K663).keep K678).keep K681).keep K690).keep K699).keep K702).lt u712_3)
      have ne725 : b625 ≠ vb_714 := Nat.ne_of_lt (Nat.lt_of_lt_of_le (((((((fa658.ext E656).keep K663 (ninS ne659 nin0)).keep K678 (ninS ne659 (ninS ne671 (ninS ne675 nin0)))).keep K681 (ninS ne675 nin0)).keep K690 (ninS ne675 nin0)).keep K699 (ninS ne659 (ninS ne671 (ninS ne675 nin0)))).keep K702 (ninS ne675 nin0)).lt u712_3)
      have ne726 : vb_650 ≠ vb_714 := Nat.ne_of_lt (Nat.lt_of_lt_of_le (((((((f649_3.ext E656).keep K663 (ninS ne660 nin0)).keep K678 (ninS ne660 (ninS ne672 (ninS ne676 nin0)))).keep K681 (ninS ne676 nin0)).keep K690 (ninS ne676 nin0)).keep K699 (ninS ne660 (ninS ne672 (ninS ne676 nin0)))).keep K702 (ninS ne676 nin0)).lt u712_3)
      have ne727 : b656 ≠ vb_714 := Nat.ne_of_lt (Nat.lt_of_lt_of_le fa706.lt u712_3)
      have ne728 : ka_664 ≠ vb_714 := Nat.ne_of_lt (Nat.lt_of_lt_of_le fa710.lt u712_3)
      have ne729 : ia_665 ≠ vb_714 := Nat.ne_of_lt (Nat.lt_of_lt_of_le ff705.lt u712_3)
      have fa730 := ((((((((f649_0.ext E656).keep K663).keep K678).keep K681).keep K690).keep K699).keep K702).keep K712)
      have fa731 := ((((((((f649_1.ext E656).keep K663 (ninS ne657 nin0)).keep K678 (ninS ne657 (ninS ne670 (ninS ne674 nin0)))).keep K681 (ninS ne674 nin0)).keep K690 (ninS ne674 nin0)).keep K699 (ninS ne657 (ninS ne670 (ninS ne674 nin0)))).keep K702 (ninS ne674 nin0)).keep K712 nin0)
      have fa732 := ((((((((f649_2.ext E656).keep K663 (ninS ne657 nin0)).keep K678 (ninS ne657 (ninS ne670 (ninS ne674 nin0)))).keep K681 (ninS ne674 nin0)).keep K690 (ninS ne674 nin0)).keep K699 (ninS ne657 (ninS ne670 (ninS ne674 nin0)))).keep K702 (ninS ne674 nin0)).keep K712 nin0)
      have fa733 := ((((((((f649_3.ext E656).keep K663 (ninS ne660 nin0)).keep K678 (ninS ne660 (ninS ne672 (ninS ne676 nin0)))).keep K681 (ninS ne676 nin0)).keep K690 (ninS ne676 nin0)).keep K699 (ninS ne660 (ninS ne672 (ninS ne676 nin0)))).keep K702 (ninS ne676 nin0)).keep K712 nin0)
      have fa734 := (fa711.keep K712 all0)
      obtain ⟨cq735, kq735, q735a, q735b, q735c⟩ := isOf hZ rfl f712_0
      obtain ⟨_, _, ⟨T735, L735, k735, n735⟩, -, X735, ⟨Lc735, hQ735, l735, y735, z735⟩, st735⟩ := X712.virtualBack hx (y := oM30) (z := oM30) hown (mvT hZ (ow hw 114 rfl)) (mvT hZ (ow hw 115 rfl)) (notFace_of_selects (args := #[]) (mvT hZ (ow hw 117 rfl))) (mvT hZ (ow hw 117 rfl)) (mvT hZ (ow hw 116 rfl)) (by decide) (backOf (W := 0) (rm19n4 l Z a0 hw [] sa_713 b622 vb_714 kb_715 vb_650 kb_651 (47 : Int32) (49 : Int32) (47 : Int32) (48 : Int32) cs T712.heap n0 Z717 f712_0 f712_1 f712_2 f712_3 fa730 fa731 fa732 fa733 (Ne.symm ne718) Cs (by first | assumption | decide | omega) fa734) hZ (ow hw 118 rfl) (ow hw 2 rfl) (by decide) (by decide)) q735a q735c (g := (mkF m 167 #[.val (.int p0), .val (.int p1), .val (.int 2), .val (.int 1), .val (.ref b622), .val (.ref b656)] [(.ref b622), (.ref sa_713)])) rfl (by rw [hml]; rfl) (Steps.refl _) (argsL := [(.ref b622)]) (rest := []) (lenOf pd32 rfl) rfl (Nat.le_of_eq rfl) (hb hby at_167) (fun _ _ => ⟨rfl, rfl, (by decide : 10 + 0 ≤ _), (by decide : 75 + 0 ≤ _)⟩)
      dsimp only [Pt.U, Pt.locs, Pt.cells, Pt.slots] at X735 l735 y735 z735 st735 hQ735
      subst l735 y735 z735
      obtain ⟨rfl, N735q, e735⟩ := hQ735
      have N735 := Fr.app N712 N735q
      have fa736 := (fa706.keep K712)
      have fa737 := (fa708.keep K712 nin0)
      have fa738 := (fa709.keep K712 nin0)
      have fa739 := (ff705.keep K712 nin0)
      obtain ⟨cq740, kq740, q740a, q740b, q740c⟩ := isOf hZ e735 fa736
      obtain ⟨_, _, ⟨T740, L740, k740, n740⟩, -, X740, ⟨Lc740, hQ740, l740, y740, z740⟩, st740⟩ := X735.virtualBack hx (y := oM6) (z := oM6) hown (mvT hZ (ow hw 125 rfl)) (mvT hZ (ow hw 126 rfl)) (notFace_of_selects (args := #[]) (mvT hZ (ow hw 128 rfl))) (mvT hZ (ow hw 128 rfl)) (mvT hZ (ow hw 127 rfl)) (by decide) (backOf (W := 0) (rm21 l Z a0 hw [] b656 ia_665 ki_667 (1 : Int32) (0 : Int32) T712.heap n0 Z717 fa736 fa737 fa738 fa739 (by first | assumption | decide | omega) (by first | assumption | decide | omega)) hZ (ow hw 129 rfl) (ow hw 11 rfl) (by decide) (by decide)) q740a q740c (g := (mkF m 175 #[.val (.int p0), .val (.int p1), .val (.int 2), .val (.int 1), .val (.ref b622), .val (.ref b656)] [(.ref b656)])) rfl (by rw [hml]; rfl) (Steps.refl _) (argsL := []) (rest := []) (lenOf pd2 rfl) rfl (Nat.le_of_eq rfl) (hb hby at_175) (fun _ _ => ⟨rfl, e735, (by decide : 10 + 0 ≤ _), (by decide : 75 + 0 ≤ _)⟩)
      dsimp only [Pt.U, Pt.locs, Pt.cells, Pt.slots] at X740 l740 y740 z740 st740 hQ740
      subst l740 y740 z740
      obtain ⟨rfl, N740q, e740⟩ := hQ740
      have N740 := Fr.app N735 N740q
      obtain ⟨cq741, kq741, q741a, q741b, q741c⟩ := isOf hZ e740 fa736
      obtain ⟨_, _, ⟨T741, L741, k741, n741⟩, -, X741, ⟨Lc741, hQ741, l741, y741, z741⟩, st741⟩ := X740.virtualBack hx (y := oM4) (z := oM4) hown (mvT hZ (ow hw 135 rfl)) (mvT hZ (ow hw 136 rfl)) (notFace_of_selects (args := #[]) (mvT hZ (ow hw 138 rfl))) (mvT hZ (ow hw 138 rfl)) (mvT hZ (ow hw 137 rfl)) (by decide) (backOf (W := 0) (rm23 l Z a0 hw [] b656 T712.heap n0 Z717 fa738) hZ (ow hw 139 rfl) (ow hw 11 rfl) (by decide) (by decide)) q741a q741c (g := (mkF m 192 #[.val (.int p0), .val (.int p1), .val (.int 2), .val (.int 1), .val (.ref b622), .val (.ref b656)] [(.ref b656)])) rfl (by rw [hml]; rfl) (Steps.refl _) (argsL := []) (rest := []) (lenOf pd12 rfl) rfl (Nat.le_of_eq rfl) (hb hby at_192) (fun _ _ => ⟨rfl, e740, (by decide : 10 + 0 ≤ _), (by decide : 75 + 0 ≤ _)⟩)
      dsimp only [Pt.U, Pt.locs, Pt.cells, Pt.slots] at X741 l741 y741 z741 st741 hQ741
      subst l741 y741 z741
      obtain ⟨rfl, N741q, e741⟩ := hQ741
      have N741 := Fr.app N740 N741q
      obtain ⟨fsZ, hrZ, hrun, hended, hRE⟩ := X741.leaveW hS0 (by rw [e741]; exact hk716) (v := some (.int 1)) (fun h => by rw [Bd.returns] at h; cases h)
      refine ⟨_, _, pre1 _ ?_, hrun, hended, _, _, rfl, ?_, hRE.1, hRE.2.1, hRE.2.2.1, hRE.2.2.2.mono (by decide) (by decide)⟩
      · show Steps _ _ _ (s₁.setTop (mkF m 14 #[.val (.int p0), .val (.int p1), .val (.int 2), .val (.int 1), .unset, .unset] [])) _
        refine XS.iloadN X0.here hx rfl (hb hby at_14) rfl  ?_
        refine XS.ifYes X0.here hx rfl (pc0 := 15) (pc' := 25) rfl (hb hby at_15) rfl ((if0 _ _).trans (feq (by decide)).2) (by decide) (by decide) ?_
        refine XS.iloadN X0.here hx rfl (hb hby at_25) rfl  ?_
        refine XS.ifYes X0.here hx rfl (pc0 := 26) (pc' := 59) rfl (hb hby at_26) rfl ((if0 _ _).trans (feq (by decide)).2) (by decide) (by decide) ?_
        show Steps _ _ _ (s₁.setTop (mkF m 59 #[.val (.int p0), .val (.int p1), .val (.int 2), .val (.int 1), .unset, .unset] [])) _
        refine st622 _ ?_
        refine XS.dup X622.here hx rfl (hb hby at_62) rfl rfl ?_
        refine XS.iconst X622.here hx rfl (hb hby at_63) ?_
        show Steps _ _ _ (T622.setTop (mkF m 64 #[.val (.int p0), .val (.int p1), .val (.int 2), .val (.int 1), .unset, .unset] [(.int 4), (.ref b622), (.ref b622)])) _
        refine st625 _ ?_
        refine XS.dup X625.here hx rfl (hb hby at_66) rfl rfl ?_
        refine XS.iconst X625.here hx rfl (hb hby at_67) ?_
        refine XS.bipush X625.here hx rfl (hb hby at_68) ?_
        show Steps _ _ _ (T625.setTop (mkF m 70 #[.val (.int p0), .val (.int p1), .val (.int 2), .val (.int 1), .unset, .unset] [(.int 47), (.int 0), (.ref b625), (.ref b625), (.ref b622), (.ref b622)])) _
        refine st630 _ ?_
        refine XS.dup X630.here hx rfl (hb hby at_71) rfl rfl ?_
        refine XS.iconst X630.here hx rfl (hb hby at_72) ?_
        refine XS.bipush X630.here hx rfl (hb hby at_73) ?_
        refine XS.iloadN X630.here hx rfl (hb hby at_75) rfl  ?_
        refine XS.iadd X630.here hx rfl (hb hby at_76) rfl ?_
        show Steps _ _ _ (T630.setTop (mkF m 77 #[.val (.int p0), .val (.int p1), .val (.int 2), .val (.int 1), .unset, .unset] [(.int ((48 : Int32) + (2 : Int32))), (.int 1), (.ref b625), (.ref b625), (.ref b622), (.ref b622)])) _
        rw [show ((48 : Int32) + (2 : Int32)) = (50 : Int32) from by decide]
        show Steps _ _ _ (T630.setTop (mkF m 77 #[.val (.int p0), .val (.int p1), .val (.int 2), .val (.int 1), .unset, .unset] [(.int 50), (.int 1), (.ref b625), (.ref b625), (.ref b622), (.ref b622)])) _
        refine XS.iconst X630.here hx rfl (hb hby at_77) ?_
        refine XS.isub X630.here hx rfl (hb hby at_78) rfl ?_
        show Steps _ _ _ (T630.setTop (mkF m 79 #[.val (.int p0), .val (.int p1), .val (.int 2), .val (.int 1), .unset, .unset] [(.int ((50 : Int32) - (1 : Int32))), (.int 1), (.ref b625), (.ref b625), (.ref b622), (.ref b622)])) _
        rw [show ((50 : Int32) - (1 : Int32)) = (49 : Int32) from by decide]
        show Steps _ _ _ (T630.setTop (mkF m 79 #[.val (.int p0), .val (.int p1), .val (.int 2), .val (.int 1), .unset, .unset] [(.int 49), (.int 1), (.ref b625), (.ref b625), (.ref b622), (.ref b622)])) _
        refine XS.i2c X630.here hx rfl (hb hby at_79) rfl ?_
        show Steps _ _ _ (T630.setTop (mkF m 80 #[.val (.int p0), .val (.int p1), .val (.int 2), .val (.int 1), .unset, .unset] [(.int ((49 : Int32).toUInt32.toUInt16.toUInt32.toInt32)), (.int 1), (.ref b625), (.ref b625), (.ref b622), (.ref b622)])) _
        rw [show ((49 : Int32).toUInt32.toUInt16.toUInt32.toInt32) = (49 : Int32) from by decide]
        show Steps _ _ _ (T630.setTop (mkF m 80 #[.val (.int p0), .val (.int p1), .val (.int 2), .val (.int 1), .unset, .unset] [(.int 49), (.int 1), (.ref b625), (.ref b625), (.ref b622), (.ref b622)])) _
        refine st634 _ ?_
        refine XS.dup X634.here hx rfl (hb hby at_81) rfl rfl ?_
        refine XS.iconst X634.here hx rfl (hb hby at_82) ?_
        refine XS.bipush X634.here hx rfl (hb hby at_83) ?_
        show Steps _ _ _ (T634.setTop (mkF m 85 #[.val (.int p0), .val (.int p1), .val (.int 2), .val (.int 1), .unset, .unset] [(.int 47), (.int 2), (.ref b625), (.ref b625), (.ref b622), (.ref b622)])) _
        refine st638 _ ?_
        refine XS.dup X638.here hx rfl (hb hby at_86) rfl rfl ?_
        refine XS.iconst X638.here hx rfl (hb hby at_87) ?_
        refine XS.bipush X638.here hx rfl (hb hby at_88) ?_
        refine XS.iloadN X638.here hx rfl (hb hby at_90) rfl  ?_
        refine XS.iadd X638.here hx rfl (hb hby at_91) rfl ?_
        show Steps _ _ _ (T638.setTop (mkF m 92 #[.val (.int p0), .val (.int p1), .val (.int 2), .val (.int 1), .unset, .unset] [(.int ((48 : Int32) + (1 : Int32))), (.int 3), (.ref b625), (.ref b625), (.ref b622), (.ref b622)])) _
        rw [show ((48 : Int32) + (1 : Int32)) = (49 : Int32) from by decide]
        show Steps _ _ _ (T638.setTop (mkF m 92 #[.val (.int p0), .val (.int p1), .val (.int 2), .val (.int 1), .unset, .unset] [(.int 49), (.int 3), (.ref b625), (.ref b625), (.ref b622), (.ref b622)])) _
        refine XS.iconst X638.here hx rfl (hb hby at_92) ?_
        refine XS.isub X638.here hx rfl (hb hby at_93) rfl ?_
        show Steps _ _ _ (T638.setTop (mkF m 94 #[.val (.int p0), .val (.int p1), .val (.int 2), .val (.int 1), .unset, .unset] [(.int ((49 : Int32) - (1 : Int32))), (.int 3), (.ref b625), (.ref b625), (.ref b622), (.ref b622)])) _
        rw [show ((49 : Int32) - (1 : Int32)) = (48 : Int32) from by decide]
        show Steps _ _ _ (T638.setTop (mkF m 94 #[.val (.int p0), .val (.int p1), .val (.int 2), .val (.int 1), .unset, .unset] [(.int 48), (.int 3), (.ref b625), (.ref b625), (.ref b622), (.ref b622)])) _
        refine XS.i2c X638.here hx rfl (hb hby at_94) rfl ?_
        show Steps _ _ _ (T638.setTop (mkF m 95 #[.val (.int p0), .val (.int p1), .val (.int 2), .val (.int 1), .unset, .unset] [(.int ((48 : Int32).toUInt32.toUInt16.toUInt32.toInt32)), (.int 3), (.ref b625), (.ref b625), (.ref b622), (.ref b622)])) _
        rw [show ((48 : Int32).toUInt32.toUInt16.toUInt32.toInt32) = (48 : Int32) from by decide]
        show Steps _ _ _ (T638.setTop (mkF m 95 #[.val (.int p0), .val (.int p1), .val (.int 2), .val (.int 1), .unset, .unset] [(.int 48), (.int 3), (.ref b625), (.ref b625), (.ref b622), (.ref b622)])) _
        refine st642 _ ?_
        show Steps _ _ _ (T642.setTop (mkF m 96 #[.val (.int p0), .val (.int p1), .val (.int 2), .val (.int 1), .unset, .unset] [(.ref b625), (.ref b622), (.ref b622)])) _
        refine st649.trans ?_
        refine XS.astore X649.here hx rfl (hb hby at_99) rfl rfl (l' := #[.val (.int p0), .val (.int p1), .val (.int 2), .val (.int 1), .val (.ref b622), .unset]) rfl ?_
        show Steps _ _ _ (T649.setTop (mkF m 101 #[.val (.int p0), .val (.int p1), .val (.int 2), .val (.int 1), .val (.ref b622), .unset] [])) _
        refine st656 _ ?_
        refine XS.dup X656.here hx rfl (hb hby at_104) rfl rfl ?_
        show Steps _ _ _ (T656.setTop (mkF m 105 #[.val (.int p0), .val (.int p1), .val (.int 2), .val (.int 1), .val (.ref b622), .unset] [(.ref b656), (.ref b656)])) _
        refine st663.trans ?_
        refine XS.astore X663.here hx rfl (hb hby at_108) rfl rfl (l' := #[.val (.int p0), .val (.int p1), .val (.int 2), .val (.int 1), .val (.ref b622), .val (.ref b656)]) rfl ?_
        refine XS.aload X663.here hx rfl (hb hby at_110) rfl rfl ?_
        show Steps _ _ _ (T663.setTop (mkF m 112 #[.val (.int p0), .val (.int p1), .val (.int 2), .val (.int 1), .val (.ref b622), .val (.ref b656)] [(.ref b656)])) _
        refine st678.trans ?_
        refine XS.iloadN X678.here hx rfl (hb hby at_115) rfl  ?_
        refine XS.iconst X678.here hx rfl (hb hby at_116) ?_
        refine XS.icmpNo X678.here hx rfl (hb hby at_117) rfl (flt (by decide)).1 ?_
        refine XS.aload X678.here hx rfl (hb hby at_120) rfl rfl ?_
        show Steps _ _ _ (T678.setTop (mkF m 122 #[.val (.int p0), .val (.int p1), .val (.int 2), .val (.int 1), .val (.ref b622), .val (.ref b656)] [(.ref b656)])) _
        refine st681.trans ?_
        refine XS.iloadN X681.here hx rfl (hb hby at_125) rfl  ?_
        refine XS.iconst X681.here hx rfl (hb hby at_126) ?_
        refine XS.icmpNo X681.here hx rfl (hb hby at_127) rfl (flt (by decide)).1 ?_
        refine XS.aload X681.here hx rfl (hb hby at_130) rfl rfl ?_
        show Steps _ _ _ (T681.setTop (mkF m 132 #[.val (.int p0), .val (.int p1), .val (.int 2), .val (.int 1), .val (.ref b622), .val (.ref b656)] [(.ref b656)])) _
        refine st690.trans ?_
        refine XS.aload X690.here hx rfl (hb hby at_135) rfl rfl ?_
        show Steps _ _ _ (T690.setTop (mkF m 137 #[.val (.int p0), .val (.int p1), .val (.int 2), .val (.int 1), .val (.ref b622), .val (.ref b656)] [(.ref b656)])) _
        refine st699.trans ?_
        refine XS.iloadN X699.here hx rfl (hb hby at_140) rfl  ?_
        refine XS.iconst X699.here hx rfl (hb hby at_141) ?_
        refine XS.icmpNo X699.here hx rfl (hb hby at_142) rfl (flt (by decide)).1 ?_
        refine XS.aload X699.here hx rfl (hb hby at_145) rfl rfl ?_
        show Steps _ _ _ (T699.setTop (mkF m 147 #[.val (.int p0), .val (.int p1), .val (.int 2), .val (.int 1), .val (.ref b622), .val (.ref b656)] [(.ref b656)])) _
        refine st702.trans ?_
        refine XS.iloadN X702.here hx rfl (hb hby at_150) rfl  ?_
        refine XS.iconst X702.here hx rfl (hb hby at_151) ?_
        refine XS.icmpYes X702.here hx rfl (pc0 := 152) (pc' := 160) rfl (hb hby at_152) rfl (tlt (by decide)).1 (by decide) (by decide) ?_
        refine XS.aload X702.here hx rfl (hb hby at_160) rfl rfl ?_
        show Steps _ _ _ (T702.setTop (mkF m 162 #[.val (.int p0), .val (.int p1), .val (.int 2), .val (.int 1), .val (.ref b622), .val (.ref b656)] [(.ref b656)])) _
        refine st712.trans ?_
        refine XS.aload X712.here hx rfl (hb hby at_165) rfl rfl ?_
        show Steps _ _ _ (T712.setTop (mkF m 167 #[.val (.int p0), .val (.int p1), .val (.int 2), .val (.int 1), .val (.ref b622), .val (.ref b656)] [(.ref b622), (.ref sa_713)])) _
        refine st735.trans ?_
        refine XS.ifNo X735.here hx rfl (hb hby at_170) rfl ((if0 _ _).trans (feq (by decide)).1) ?_
        refine XS.aload X735.here hx rfl (hb hby at_173) rfl rfl ?_
        show Steps _ _ _ (T735.setTop (mkF m 175 #[.val (.int p0), .val (.int p1), .val (.int 2), .val (.int 1), .val (.ref b622), .val (.ref b656)] [(.ref b656)])) _
        refine st740.trans ?_
        refine XS.iloadN X740.here hx rfl (hb hby at_178) rfl  ?_
        refine XS.ifYes X740.here hx rfl (pc0 := 179) (pc' := 186) rfl (hb hby at_179) rfl ((if0 _ _).trans (feq (by decide)).2) (by decide) (by decide) ?_
        refine XS.iconst X740.here hx rfl (hb hby at_186) ?_
        refine XS.icmpNo X740.here hx rfl (hb hby at_187) rfl (teq (by decide)).2 ?_
        refine XS.aload X740.here hx rfl (hb hby at_190) rfl rfl ?_
        show Steps _ _ _ (T740.setTop (mkF m 192 #[.val (.int p0), .val (.int p1), .val (.int 2), .val (.int 1), .val (.ref b622), .val (.ref b656)] [(.ref b656)])) _
        refine st741.trans ?_
        refine XS.iconst X741.here hx rfl (hb hby at_195) ?_
        refine XS.icmpNo X741.here hx rfl (hb hby at_196) rfl (teq (by decide)).2 ?_
        refine XS.iconst X741.here hx rfl (hb hby at_199) ?_
        refine XS.goto X741.here hx rfl (pc0 := 200) (pc' := 204) rfl (hb hby at_200) (by decide) (by decide) ?_
        show Steps _ _ _ (T741.setTop (mkF m 204 #[.val (.int p0), .val (.int p1), .val (.int 2), .val (.int 1), .val (.ref b622), .val (.ref b656)] [(.int 1)])) _
        exact retN X741 hx (t := .boolean) Bd.returns (by simp) (hb hby at_204) hrZ
      · show Q0 Z p0 p1 cs da cd h0 n0 _ T741.heap _
        rw [e741]
        exact ⟨rfl, N741⟩
    ·  -- k2 = 2
      obtain ⟨T742, h742, X742, e742, E742, A742, D742, -, st742⟩ := newO X0 hx hZ hown (ow hw 140 rfl) (ow hw 3 rfl) (ow hw 2 rfl) e0 (g := (mkF m 59 #[.val (.int p0), .val (.int p1), .val (.int 2), .val (.int 2), .unset, .unset] [])) rfl (hb hby at_59) (by decide) (by decide)
      obtain ⟨b742, g742⟩ : ∃ z, z = h0.size := ⟨_, rfl⟩
      rw [← g742] at A742 D742 st742
      have gn_b742 : n0 ≤ b742 := Nat.le_trans Z0 (Nat.le_of_eq g742.symm)
      have hk743 := Nat.le_trans hk0 E742.1
      have Z744 : n0 ≤ h742.size := Nat.le_trans Z0 E742.1
      have F_value_b742 : Fld Z h742 b742 oS "value" "[B" .null := D742 (Or.inr (ow hw 5 rfl)) (ty := (.array .byte)) (by decide)
      have F_coder_b742 : Fld Z h742 b742 oS "coder" "B" (.int 0) := D742 (Or.inr (ow hw 6 rfl)) (ty := .byte) (by decide)
      obtain ⟨T745, h745, k745, X745, e745, E745, A745, st745⟩ := newP X742 hx hZ (ow hw 141 rfl) e742 (g := (mkF m 64 #[.val (.int p0), .val (.int p1), .val (.int 2), .val (.int 2), .unset, .unset] [(.int 4), (.ref b742), (.ref b742)])) rfl (hb hby at_64) rfl (by decide) (cap := 4) (by decide) (by decide) (by decide) (by decide)
      obtain ⟨b745, g745⟩ : ∃ z, z = h742.size := ⟨_, rfl⟩
      rw [← g745] at A745 st745
      have ne746 : b742 ≠ b745 := Nat.ne_of_lt (Nat.lt_of_lt_of_le A742.lt (Nat.le_of_eq g745.symm))
      have gn_b745 : n0 ≤ b745 := Nat.le_trans Z744 (Nat.le_of_eq g745.symm)
      have hk747 := Nat.le_trans hk743 E745.1
      have Z748 : n0 ≤ h745.size := Nat.le_trans Z744 E745.1
      have V745 : Arv Z h745 b745 k745 .char (4 : Int32) [(.int 0), (.int 0), (.int 0), (.int 0)] (.int 0) := (Arv.new A745 (by decide)).pad (pad_rep [] (.int 0) 4)
      obtain ⟨c749, Arc749, qc749, Sc749, Mc749, Hc749, Gc749⟩ := id V745
      have hinc749 : ¬ ((0 : Int32) < 0 ∨ c749.slots.size ≤ ((0 : Int32)).toNatClampNeg) := inb_of Sc749 ⟨by decide, by decide⟩
      obtain ⟨T750, h750, X750, e750, W750, st750⟩ := stC X745 hx hZ e745 Arc749 (j := (0 : Int32)) hinc749  (g := (mkF m 70 #[.val (.int p0), .val (.int p1), .val (.int 2), .val (.int 2), .unset, .unset] [(.int 47), (.int 0), (.ref b745), (.ref b745), (.ref b742), (.ref b742)])) rfl rfl (hb hby at_70)
      have V750 : Arv Z h750 b745 k745 .char (4 : Int32) [(.int 47), (.int 0), (.int 0), (.int 0)] (.int 0) := Arv.set Arc749 qc749 Sc749 Mc749 Hc749 Gc749 (fits_nar_char _) W750 0 rfl (Nat.le_of_ble_eq_true rfl)
      have hk751 := Nat.le_trans hk747 (Nat.le_of_eq W750.size.symm)
      have Z752 : n0 ≤ h750.size := Nat.le_trans Z748 (Nat.le_of_eq W750.size.symm)
      have N750 := Fr.snoc X750 N0 gn_b745
      obtain ⟨c753, Arc753, qc753, Sc753, Mc753, Hc753, Gc753⟩ := id V750
      have hinc753 : ¬ ((1 : Int32) < 0 ∨ c753.slots.size ≤ ((1 : Int32)).toNatClampNeg) := inb_of Sc753 ⟨by decide, by decide⟩
      obtain ⟨T754, h754, X754, e754, W754, st754⟩ := stC X750 hx hZ e750 Arc753 (j := (1 : Int32)) hinc753  (g := (mkF m 80 #[.val (.int p0), .val (.int p1), .val (.int 2), .val (.int 2), .unset, .unset] [(.int 49), (.int 1), (.ref b745), (.ref b745), (.ref b742), (.ref b742)])) rfl rfl (hb hby at_80)
      have V754 : Arv Z h754 b745 k745 .char (4 : Int32) [(.int 47), (.int 49), (.int 0), (.int 0)] (.int 0) := Arv.set Arc753 qc753 Sc753 Mc753 Hc753 Gc753 (fits_nar_char _) W754 1 rfl (Nat.le_of_ble_eq_true rfl)
      have hk755 := Nat.le_trans hk751 (Nat.le_of_eq W754.size.symm)
      have Z756 : n0 ≤ h754.size := Nat.le_trans Z752 (Nat.le_of_eq W754.size.symm)
      have N754 := Fr.snoc X754 N750 gn_b745
      obtain ⟨c757, Arc757, qc757, Sc757, Mc757, Hc757, Gc757⟩ := id V754
      have hinc757 : ¬ ((2 : Int32) < 0 ∨ c757.slots.size ≤ ((2 : Int32)).toNatClampNeg) := inb_of Sc757 ⟨by decide, by decide⟩
      obtain ⟨T758, h758, X758, e758, W758, st758⟩ := stC X754 hx hZ e754 Arc757 (j := (2 : Int32)) hinc757  (g := (mkF m 85 #[.val (.int p0), .val (.int p1), .val (.int 2), .val (.int 2), .unset, .unset] [(.int 47), (.int 2), (.ref b745), (.ref b745), (.ref b742), (.ref b742)])) rfl rfl (hb hby at_85)
      have V758 : Arv Z h758 b745 k745 .char (4 : Int32) [(.int 47), (.int 49), (.int 47), (.int 0)] (.int 0) := Arv.set Arc757 qc757 Sc757 Mc757 Hc757 Gc757 (fits_nar_char _) W758 2 rfl (Nat.le_of_ble_eq_true rfl)
      have hk759 := Nat.le_trans hk755 (Nat.le_of_eq W758.size.symm)
      have Z760 : n0 ≤ h758.size := Nat.le_trans Z756 (Nat.le_of_eq W758.size.symm)
      have N758 := Fr.snoc X758 N754 gn_b745
      obtain ⟨c761, Arc761, qc761, Sc761, Mc761, Hc761, Gc761⟩ := id V758
      have hinc761 : ¬ ((3 : Int32) < 0 ∨ c761.slots.size ≤ ((3 : Int32)).toNatClampNeg) := inb_of Sc761 ⟨by decide, by decide⟩
      obtain ⟨T762, h762, X762, e762, W762, st762⟩ := stC X758 hx hZ e758 Arc761 (j := (3 : Int32)) hinc761  (g := (mkF m 95 #[.val (.int p0), .val (.int p1), .val (.int 2), .val (.int 2), .unset, .unset] [(.int 49), (.int 3), (.ref b745), (.ref b745), (.ref b742), (.ref b742)])) rfl rfl (hb hby at_95)
      have V762 : Arv Z h762 b745 k745 .char (4 : Int32) [(.int 47), (.int 49), (.int 47), (.int 49)] (.int 0) := Arv.set Arc761 qc761 Sc761 Mc761 Hc761 Gc761 (fits_nar_char _) W762 3 rfl (Nat.le_of_ble_eq_true rfl)
      have hk763 := Nat.le_trans hk759 (Nat.le_of_eq W762.size.symm)
      have Z764 : n0 ≤ h762.size := Nat.le_trans Z760 (Nat.le_of_eq W762.size.symm)
      have N762 := Fr.snoc X762 N758 gn_b745
      have fa765 := (((((A742.ext E745).wr W750).wr W754).wr W758).wr W762)
      have fa766 := (((((F_coder_b742.ext E745).other W750 (Or.inl ne746)).other W754 (Or.inl ne746)).other W758 (Or.inl ne746)).other W762 (Or.inl ne746))
      have fa767 := (((((F_value_b742.ext E745).other W750 (Or.inl ne746)).other W754 (Or.inl ne746)).other W758 (Or.inl ne746)).other W762 (Or.inl ne746))
      have fa768 := ((((((Ox.ext E742).ext E745).wr W750 gn_b745).wr W754 gn_b745).wr W758 gn_b745).wr W762 gn_b745)
      obtain ⟨_, _, ⟨T769, L769, k769, n769⟩, -, X769, ⟨Lc769, hQ769, l769, y769, z769⟩, st769⟩ := X762.specialBack hx (y := oM35) rfl hown (mvT hZ (ow hw 142 rfl)) (mvT hZ (ow hw 143 rfl)) (mvT hZ (ow hw 144 rfl)) (by decide) (backOf (W := 1) (rm24n4 l Z a0 hw [] b742 b745 (.int 0) .null k745 (47 : Int32) (49 : Int32) (47 : Int32) (49 : Int32) cs h762 n0 Z764 fa765 fa766 fa767 gn_b742 V762 ne746 (by first | assumption | decide | omega) (by first | assumption | decide | omega) (by first | assumption | decide | omega) (by first | assumption | decide | omega) (by first | assumption | decide | omega) (by first | assumption | decide | omega) (by first | assumption | decide | omega) (by first | assumption | decide | omega) Cs (by first | assumption | decide | omega) fa768) hZ (ow hw 144 rfl) (ow hw 2 rfl) (by decide) (by decide)) (g := (mkF m 96 #[.val (.int p0), .val (.int p1), .val (.int 2), .val (.int 2), .unset, .unset] [(.ref b745), (.ref b742), (.ref b742)])) rfl (by rw [hml]; rfl) (Steps.refl _) (a := b742) (argsL := [(.ref b745)]) (rest := [(.ref b742)]) (lenOf pd33 rfl) rfl (Nat.le_of_eq rfl) (hb hby at_96) (fun _ _ => ⟨rfl, e762, (by decide : 2 + 1 ≤ _), (by decide : 8 + 4 ≤ _)⟩)
      dsimp only [Pt.U, Pt.locs, Pt.cells, Pt.slots] at X769 l769 y769 z769 st769 hQ769
      subst l769 y769 z769
      obtain ⟨vb_770, kb_771, rfl, N769q, K769, u769_0, u769_1, f769_0, f769_1, f769_2, f769_3⟩ := hQ769
      have N769 := Fr.app N762 N769q
      have hk772 := Nat.le_trans hk763 K769.1
      have Z773 : n0 ≤ T769.heap.size := Nat.le_trans Z764 K769.1
      have ne774 : b742 ≠ vb_770 := Nat.ne_of_lt (Nat.lt_of_lt_of_le fa765.lt u769_1)
      have ne775 : b745 ≠ vb_770 := Nat.ne_of_lt (Nat.lt_of_lt_of_le V762.lt u769_1)
      obtain ⟨T776, h776, X776, e776, E776, A776, D776, -, st776⟩ := newO X769 hx hZ hown (ow hw 9 rfl) (ow hw 10 rfl) (ow hw 11 rfl) rfl (g := (mkF m 101 #[.val (.int p0), .val (.int p1), .val (.int 2), .val (.int 2), .val (.ref b742), .unset] [])) rfl (hb hby at_101) (by decide) (by decide)
      obtain ⟨b776, g776⟩ : ∃ z, z = T769.heap.size := ⟨_, rfl⟩
      rw [← g776] at A776 D776 st776
      have ne777 : b742 ≠ b776 := Nat.ne_of_lt (Nat.lt_of_lt_of_le f769_0.lt (Nat.le_of_eq g776.symm))
      have fa778 := (V762.keep K769 (ninS (Ne.symm ne746) nin0))
      have ne779 : b745 ≠ b776 := Nat.ne_of_lt (Nat.lt_of_lt_of_le fa778.lt (Nat.le_of_eq g776.symm))
      have ne780 : vb_770 ≠ b776 := Nat.ne_of_lt (Nat.lt_of_lt_of_le f769_3.lt (Nat.le_of_eq g776.symm))
      have gn_b776 : n0 ≤ b776 := Nat.le_trans Z773 (Nat.le_of_eq g776.symm)
      have hk781 := Nat.le_trans hk772 E776.1
      have Z782 : n0 ≤ h776.size := Nat.le_trans Z773 E776.1
      have F_keys_b776 : Fld Z h776 b776 oJ "keys" "[Ljava/lang/String;" .null := D776 (Or.inl (ow hw 21 rfl)) (ty := (.array (.object oS))) (by decide)
      have F_indexes_b776 : Fld Z h776 b776 oJ "indexes" "[I" .null := D776 (Or.inl (ow hw 24 rfl)) (ty := (.array .int)) (by decide)
      have F_depth_b776 : Fld Z h776 b776 oJ "depth" "I" (.int 0) := D776 (Or.inl (ow hw 35 rfl)) (ty := .int) (by decide)
      obtain ⟨_, _, ⟨T783, L783, k783, n783⟩, -, X783, ⟨Lc783, hQ783, l783, y783, z783⟩, st783⟩ := X776.specialBack hx (y := oM0) rfl hown (mvT hZ (ow hw 12 rfl)) (mvT hZ (ow hw 13 rfl)) (mvT hZ (ow hw 14 rfl)) (by decide) (backOf (W := 1) (rm1 l Z a0 hw [] b776 .null .null h776 n0 Z782 A776 F_keys_b776 F_indexes_b776 F_depth_b776 gn_b776) hZ (ow hw 14 rfl) (ow hw 11 rfl) (by decide) (by decide)) (g := (mkF m 105 #[.val (.int p0), .val (.int p1), .val (.int 2), .val (.int 2), .val (.ref b742), .unset] [(.ref b776), (.ref b776)])) rfl (by rw [hml]; rfl) (Steps.refl _) (a := b776) (argsL := []) (rest := [(.ref b776)]) (lenOf pd21 rfl) rfl (Nat.le_of_eq rfl) (hb hby at_105) (fun _ _ => ⟨rfl, e776, (by decide : 4 + 2 ≤ _), (by decide : 15 + 32 ≤ _)⟩)
      dsimp only [Pt.U, Pt.locs, Pt.cells, Pt.slots] at X783 l783 y783 z783 st783 hQ783
      subst l783 y783 z783
      obtain ⟨ka_784, ia_785, kk_786, ki_787, rfl, N783q, K783, u783_0, u783_1, u783_2, u783_3, u783_4, f783_0, f783_1, f783_2, f783_3, f783_4, f783_5⟩ := hQ783
      have N783 := Fr.app N769 N783q
      have hk788 := Nat.le_trans hk781 K783.1
      have Z789 : n0 ≤ T783.heap.size := Nat.le_trans Z782 K783.1
      have ne790 : b742 ≠ ka_784 := Nat.ne_of_lt (Nat.lt_of_lt_of_le (f769_0.ext E776).lt u783_1)
      have ne791 : b745 ≠ ka_784 := Nat.ne_of_lt (Nat.lt_of_lt_of_le (fa778.ext E776).lt u783_1)
      have ne792 : vb_770 ≠ ka_784 := Nat.ne_of_lt (Nat.lt_of_lt_of_le (f769_3.ext E776).lt u783_1)
      have ne793 : b776 ≠ ka_784 := Nat.ne_of_lt (Nat.lt_of_lt_of_le A776.lt u783_1)
      have ne794 : b742 ≠ ia_785 := Nat.ne_of_lt (Nat.lt_of_lt_of_le (f769_0.ext E776).lt u783_3)
      have ne795 : b745 ≠ ia_785 := Nat.ne_of_lt (Nat.lt_of_lt_of_le (fa778.ext E776).lt u783_3)
      have ne796 : vb_770 ≠ ia_785 := Nat.ne_of_lt (Nat.lt_of_lt_of_le (f769_3.ext E776).lt u783_3)
      have ne797 : b776 ≠ ia_785 := Nat.ne_of_lt (Nat.lt_of_lt_of_le A776.lt u783_3)
      obtain ⟨cq798, kq798, q798a, q798b, q798c⟩ := isOf hZ rfl f783_0
      obtain ⟨_, _, ⟨T798, L798, k798, n798⟩, -, X798, ⟨Lc798, hQ798, l798, y798, z798⟩, st798⟩ := X783.virtualBack hx (y := oM2) (z := oM2) hown (mvT hZ (ow hw 25 rfl)) (mvT hZ (ow hw 26 rfl)) (notFace_of_selects (args := #[]) (mvT hZ (ow hw 28 rfl))) (mvT hZ (ow hw 28 rfl)) (mvT hZ (ow hw 27 rfl)) (by decide) (backOf (W := 0) (rm3d0 l Z a0 hw [] b776 ka_784 ia_785 kk_786 ki_787 (0 : Int32) (0 : Int32) T783.heap n0 Z789 f783_0 f783_1 f783_2 f783_3 f783_4 f783_5 gn_b776 u783_0 u783_2 ne793 ne797 u783_4) hZ (ow hw 29 rfl) (ow hw 11 rfl) (by decide) (by decide)) q798a q798c (g := (mkF m 112 #[.val (.int p0), .val (.int p1), .val (.int 2), .val (.int 2), .val (.ref b742), .val (.ref b776)] [(.ref b776)])) rfl (by rw [hml]; rfl) (Steps.refl _) (argsL := []) (rest := []) (lenOf pd21 rfl) rfl (Nat.le_of_eq rfl) (hb hby at_112) (fun _ _ => ⟨rfl, rfl, (by decide : 6 + 0 ≤ _), (by decide : 47 + 0 ≤ _)⟩)
      dsimp only [Pt.U, Pt.locs, Pt.cells, Pt.slots] at X798 l798 y798 z798 st798 hQ798
      subst l798 y798 z798
      obtain ⟨rfl, N798q, K798, f798_0, f798_1, f798_2, f798_3, f798_4, f798_5⟩ := hQ798
      have N798 := Fr.app N783 N798q
      have hk799 := Nat.le_trans hk788 K798.1
      have Z800 : n0 ≤ T798.heap.size := Nat.le_trans Z789 K798.1
      obtain ⟨cq801, kq801, q801a, q801b, q801c⟩ := isOf hZ rfl f798_0
      obtain ⟨_, _, ⟨T801, L801, k801, n801⟩, -, X801, ⟨Lc801, hQ801, l801, y801, z801⟩, st801⟩ := X798.virtualBack hx (y := oM3) (z := oM3) hown (mvT hZ (ow hw 158 rfl)) (mvT hZ (ow hw 159 rfl)) (notFace_of_selects (args := #[]) (mvT hZ (ow hw 161 rfl))) (mvT hZ (ow hw 161 rfl)) (mvT hZ (ow hw 160 rfl)) (by decide) (backOf (W := 0) (rm29d1 l Z a0 hw [] b776 ka_784 ia_785 kk_786 ki_787 (-1 : Int32) (0 : Int32) T798.heap n0 Z800 f798_0 f798_1 f798_2 f798_3 f798_4 f798_5 gn_b776 u783_0 u783_2 ne793 ne797 u783_4) hZ (ow hw 162 rfl) (ow hw 11 rfl) (by decide) (by decide)) q801a q801c (g := (mkF m 122 #[.val (.int p0), .val (.int p1), .val (.int 2), .val (.int 2), .val (.ref b742), .val (.ref b776)] [(.ref b776)])) rfl (by rw [hml]; rfl) (Steps.refl _) (argsL := []) (rest := []) (lenOf pd21 rfl) rfl (Nat.le_of_eq rfl) (hb hby at_122) (fun _ _ => ⟨rfl, rfl, (by decide : 6 + 0 ≤ _), (by decide : 47 + 0 ≤ _)⟩)
      dsimp only [Pt.U, Pt.locs, Pt.cells, Pt.slots] at X801 l801 y801 z801 st801 hQ801
      subst l801 y801 z801
      obtain ⟨rfl, N801q, K801, f801_0⟩ := hQ801
      have N801 := Fr.app N798 N801q
      have hk802 := Nat.le_trans hk799 K801.1
      have Z803 : n0 ≤ T801.heap.size := Nat.le_trans Z800 K801.1
      have ff804 : Arv Z T801.heap ia_785 ki_787 .int (16 : Int32) [(.int 0), (.int 0)] (.int 0) := by have q := f801_0; rw [show ((-1 : Int32) + (1 : Int32)) = (0 : Int32) from by decide] at q; exact q
      have fa805 := (f798_0.keep K801)
      have fa806 := (f798_1.keep K801 (ninS ne797 nin0))
      have fa807 := (f798_2.keep K801 (ninS ne797 nin0))
      have fa808 := (f798_3.keep K801 (ninS ne797 nin0))
      have fa809 := (f798_4.keep K801 (ninS u783_4 nin0))
      obtain ⟨cq810, kq810, q810a, q810b, q810c⟩ := isOf hZ rfl fa805
      obtain ⟨_, _, ⟨T810, L810, k810, n810⟩, -, X810, ⟨Lc810, hQ810, l810, y810, z810⟩, st810⟩ := X801.virtualBack hx (y := oM3) (z := oM3) hown (mvT hZ (ow hw 158 rfl)) (mvT hZ (ow hw 159 rfl)) (notFace_of_selects (args := #[]) (mvT hZ (ow hw 161 rfl))) (mvT hZ (ow hw 161 rfl)) (mvT hZ (ow hw 160 rfl)) (by decide) (backOf (W := 0) (rm29d1 l Z a0 hw [] b776 ka_784 ia_785 kk_786 ki_787 (0 : Int32) (0 : Int32) T801.heap n0 Z803 fa805 fa806 fa807 fa808 fa809 ff804 gn_b776 u783_0 u783_2 ne793 ne797 u783_4) hZ (ow hw 162 rfl) (ow hw 11 rfl) (by decide) (by decide)) q810a q810c (g := (mkF m 132 #[.val (.int p0), .val (.int p1), .val (.int 2), .val (.int 2), .val (.ref b742), .val (.ref b776)] [(.ref b776)])) rfl (by rw [hml]; rfl) (Steps.refl _) (argsL := []) (rest := []) (lenOf pd21 rfl) rfl (Nat.le_of_eq rfl) (hb hby at_132) (fun _ _ => ⟨rfl, rfl, (by decide : 6 + 0 ≤ _), (by decide : 47 + 0 ≤ _)⟩)
      dsimp only [Pt.U, Pt.locs, Pt.cells, Pt.slots] at X810 l810 y810 z810 st810 hQ810
      subst l810 y810 z810
      obtain ⟨rfl, N810q, K810, f810_0⟩ := hQ810
      have N810 := Fr.app N801 N810q
      have hk811 := Nat.le_trans hk802 K810.1
      have Z812 : n0 ≤ T810.heap.size := Nat.le_trans Z803 K810.1
      have ff813 : Arv Z T810.heap ia_785 ki_787 .int (16 : Int32) [(.int 1), (.int 0)] (.int 0) := by have q := f810_0; rw [show ((0 : Int32) + (1 : Int32)) = (1 : Int32) from by decide] at q; exact q
      have fa814 := (fa805.keep K810)
      have fa815 := (fa806.keep K810 (ninS ne797 nin0))
      have fa816 := (fa807.keep K810 (ninS ne797 nin0))
      have fa817 := (fa808.keep K810 (ninS ne797 nin0))
      have fa818 := (fa809.keep K810 (ninS u783_4 nin0))
      obtain ⟨cq819, kq819, q819a, q819b, q819c⟩ := isOf hZ rfl fa814
      obtain ⟨_, _, ⟨T819, L819, k819, n819⟩, -, X819, ⟨Lc819, hQ819, l819, y819, z819⟩, st819⟩ := X810.virtualBack hx (y := oM2) (z := oM2) hown (mvT hZ (ow hw 25 rfl)) (mvT hZ (ow hw 26 rfl)) (notFace_of_selects (args := #[]) (mvT hZ (ow hw 28 rfl))) (mvT hZ (ow hw 28 rfl)) (mvT hZ (ow hw 27 rfl)) (by decide) (backOf (W := 0) (rm3d1 l Z a0 hw [] b776 ka_784 ia_785 kk_786 ki_787 (1 : Int32) (0 : Int32) T810.heap n0 Z812 fa814 fa815 fa816 fa817 fa818 ff813 gn_b776 u783_0 u783_2 ne793 ne797 u783_4) hZ (ow hw 29 rfl) (ow hw 11 rfl) (by decide) (by decide)) q819a q819c (g := (mkF m 137 #[.val (.int p0), .val (.int p1), .val (.int 2), .val (.int 2), .val (.ref b742), .val (.ref b776)] [(.ref b776)])) rfl (by rw [hml]; rfl) (Steps.refl _) (argsL := []) (rest := []) (lenOf pd21 rfl) rfl (Nat.le_of_eq rfl) (hb hby at_137) (fun _ _ => ⟨rfl, rfl, (by decide : 6 + 0 ≤ _), (by decide : 47 + 0 ≤ _)⟩)
      dsimp only [Pt.U, Pt.locs, Pt.cells, Pt.slots] at X819 l819 y819 z819 st819 hQ819
      subst l819 y819 z819
      obtain ⟨rfl, N819q, K819, f819_0, f819_1, f819_2, f819_3, f819_4, f819_5⟩ := hQ819
      have N819 := Fr.app N810 N819q
      have hk820 := Nat.le_trans hk811 K819.1
      have Z821 : n0 ≤ T819.heap.size := Nat.le_trans Z812 K819.1
      obtain ⟨cq822, kq822, q822a, q822b, q822c⟩ := isOf hZ rfl f819_0
      obtain ⟨_, _, ⟨T822, L822, k822, n822⟩, -, X822, ⟨Lc822, hQ822, l822, y822, z822⟩, st822⟩ := X819.virtualBack hx (y := oM3) (z := oM3) hown (mvT hZ (ow hw 158 rfl)) (mvT hZ (ow hw 159 rfl)) (notFace_of_selects (args := #[]) (mvT hZ (ow hw 161 rfl))) (mvT hZ (ow hw 161 rfl)) (mvT hZ (ow hw 160 rfl)) (by decide) (backOf (W := 0) (rm29d2 l Z a0 hw [] b776 ka_784 ia_785 kk_786 ki_787 (1 : Int32) (-1 : Int32) T819.heap n0 Z821 f819_0 f819_1 f819_2 f819_3 f819_4 f819_5 gn_b776 u783_0 u783_2 ne793 ne797 u783_4) hZ (ow hw 162 rfl) (ow hw 11 rfl) (by decide) (by decide)) q822a q822c (g := (mkF m 147 #[.val (.int p0), .val (.int p1), .val (.int 2), .val (.int 2), .val (.ref b742), .val (.ref b776)] [(.ref b776)])) rfl (by rw [hml]; rfl) (Steps.refl _) (argsL := []) (rest := []) (lenOf pd21 rfl) rfl (Nat.le_of_eq rfl) (hb hby at_147) (fun _ _ => ⟨rfl, rfl, (by decide : 6 + 0 ≤ _), (by decide : 47 + 0 ≤ _)⟩)
      dsimp only [Pt.U, Pt.locs, Pt.cells, Pt.slots] at X822 l822 y822 z822 st822 hQ822
      subst l822 y822 z822
      obtain ⟨rfl, N822q, K822, f822_0⟩ := hQ822
      have N822 := Fr.app N819 N822q
      have hk823 := Nat.le_trans hk820 K822.1
      have Z824 : n0 ≤ T822.heap.size := Nat.le_trans Z821 K822.1
      have ff825 : Arv Z T822.heap ia_785 ki_787 .int (16 : Int32) [(.int 1), (.int 0)] (.int 0) := by have q := f822_0; rw [show ((-1 : Int32) + (1 : Int32)) = (0 : Int32) from by decide] at q; exact q
      have fa826 := (f819_0.keep K822)
      have fa827 := (f819_1.keep K822 (ninS ne797 nin0))
      have fa828 := (f819_2.keep K822 (ninS ne797 nin0))
      have fa829 := (f819_3.keep K822 (ninS ne797 nin0))
      have fa830 := (f819_4.keep K822 (ninS u783_4 nin0))
      obtain ⟨cq831, kq831, q831a, q831b, q831c⟩ := isOf hZ rfl fa826
      obtain ⟨_, _, ⟨T831, L831, k831, n831⟩, -, X831, ⟨Lc831, hQ831, l831, y831, z831⟩, st831⟩ := X822.virtualBack hx (y := oM3) (z := oM3) hown (mvT hZ (ow hw 158 rfl)) (mvT hZ (ow hw 159 rfl)) (notFace_of_selects (args := #[]) (mvT hZ (ow hw 161 rfl))) (mvT hZ (ow hw 161 rfl)) (mvT hZ (ow hw 160 rfl)) (by decide) (backOf (W := 0) (rm29d2 l Z a0 hw [] b776 ka_784 ia_785 kk_786 ki_787 (1 : Int32) (0 : Int32) T822.heap n0 Z824 fa826 fa827 fa828 fa829 fa830 ff825 gn_b776 u783_0 u783_2 ne793 ne797 u783_4) hZ (ow hw 162 rfl) (ow hw 11 rfl) (by decide) (by decide)) q831a q831c (g := (mkF m 157 #[.val (.int p0), .val (.int p1), .val (.int 2), .val (.int 2), .val (.ref b742), .val (.ref b776)] [(.ref b776)])) rfl (by rw [hml]; rfl) (Steps.refl _) (argsL := []) (rest := []) (lenOf pd21 rfl) rfl (Nat.le_of_eq rfl) (hb hby at_157) (fun _ _ => ⟨rfl, rfl, (by decide : 6 + 0 ≤ _), (by decide : 47 + 0 ≤ _)⟩)
      dsimp only [Pt.U, Pt.locs, Pt.cells, Pt.slots] at X831 l831 y831 z831 st831 hQ831
      subst l831 y831 z831
      obtain ⟨rfl, N831q, K831, f831_0⟩ := hQ831
      have N831 := Fr.app N822 N831q
      have hk832 := Nat.le_trans hk823 K831.1
      have Z833 : n0 ≤ T831.heap.size := Nat.le_trans Z824 K831.1
      have ff834 : Arv Z T831.heap ia_785 ki_787 .int (16 : Int32) [(.int 1), (.int 1)] (.int 0) := by have q := f831_0; rw [show ((0 : Int32) + (1 : Int32)) = (1 : Int32) from by decide] at q; exact q
      have fa835 := (fa826.keep K831)
      have fa836 := (fa827.keep K831 (ninS ne797 nin0))
      have fa837 := (fa828.keep K831 (ninS ne797 nin0))
      have fa838 := (fa829.keep K831 (ninS ne797 nin0))
      have fa839 := (fa830.keep K831 (ninS u783_4 nin0))
      have fa840 := (((((((((fa768.keep K769 (allS (P := fun x => n0 ≤ x) gn_b742 all0)).ext E776).keep K783 (allS (P := fun x => n0 ≤ x) gn_b776 all0)).keep K798 (allS (P := fun x => n0 ≤ x) gn_b776 (allS (P := fun x => n0 ≤ x) u783_0 (allS (P := fun x => n0 ≤ x) u783_2 all0)))).keep K801 (allS (P := fun x => n0 ≤ x) u783_2 all0)).keep K810 (allS (P := fun x => n0 ≤ x) u783_2 all0)).keep K819 (allS (P := fun x => n0 ≤ x) gn_b776 (allS (P := fun x => n0 ≤ x) u783_0 (allS (P := fun x => n0 ≤ x) u783_2 all0)))).keep K822 (allS (P := fun x => n0 ≤ x) u783_2 all0)).keep K831 (allS (P := fun x => n0 ≤ x) u783_2 all0))
      obtain ⟨cq841, kq841, q841a, q841b, q841c⟩ := isOf hZ rfl fa835
      obtain ⟨_, _, ⟨T841, L841, k841, n841⟩, -, X841, ⟨Lc841, hQ841, l841, y841, z841⟩, st841⟩ := X831.virtualBack hx (y := oM28) (z := oM28) hown (mvT hZ (ow hw 36 rfl)) (mvT hZ (ow hw 37 rfl)) (notFace_of_selects (args := #[]) (mvT hZ (ow hw 39 rfl))) (mvT hZ (ow hw 39 rfl)) (mvT hZ (ow hw 38 rfl)) (by decide) (backOf (W := 0) (rm5_2 l Z a0 hw [] b776 ka_784 ia_785 kk_786 ki_787 cs da cd (1 : Int32) (1 : Int32) (49 : Int32) (49 : Int32) T831.heap n0 Z833 fa835 fa836 fa837 fa838 fa839 ff834 Cs (by first | assumption | decide | omega) fa840 Dd Da (by first | assumption | decide | omega) (by first | assumption | decide | omega) (by first | assumption | decide | omega) (by first | assumption | decide | omega) (by first | assumption | decide | omega) (by first | assumption | decide | omega) (by first | assumption | decide | omega)) hZ (ow hw 40 rfl) (ow hw 11 rfl) (by decide) (by decide)) q841a q841c (g := (mkF m 162 #[.val (.int p0), .val (.int p1), .val (.int 2), .val (.int 2), .val (.ref b742), .val (.ref b776)] [(.ref b776)])) rfl (by rw [hml]; rfl) (Steps.refl _) (argsL := []) (rest := []) (lenOf pd22 rfl) rfl (Nat.le_of_eq rfl) (hb hby at_162) (fun _ _ => ⟨rfl, rfl, (by decide : 6 + 4 ≤ _), (by decide : 47 + 28 ≤ _)⟩)
      dsimp only [Pt.U, Pt.locs, Pt.cells, Pt.slots] at X841 l841 y841 z841 st841 hQ841
      subst l841 y841 z841
      obtain ⟨sa_842, vb_843, kb_844, rfl, N841q, K841, u841_0, u841_1, u841_2, u841_3, f841_0, f841_1, f841_2, f841_3⟩ := hQ841
      have N841 := Fr.app N831 N841q
      have hk845 := Nat.le_trans hk832 K841.1
      have Z846 : n0 ≤ T841.heap.size := Nat.le_trans Z833 K841.1
      have ne847 : b742 ≠ sa_842 := Nat.ne_of_lt (Nat.lt_of_lt_of_le ((((((((f769_0.ext E776).keep K783).keep K798).keep K801).keep K810).keep K819).keep K822).keep K831).lt u841_1)
      have ne848 : b745 ≠ sa_842 := Nat.ne_of_lt (Nat.lt_of_lt_of_le ((((((((fa778.ext E776).keep K783 (ninS ne779 nin0)).keep K798 (ninS ne779 (ninS ne791 (ninS ne795 nin0)))).keep K801 (ninS ne795 nin0)).keep K810 (ninS ne795 nin0)).keep K819 (ninS ne779 (ninS ne791 (ninS ne795 nin0)))).keep K822 (ninS ne795 nin0)).keep K831 (ninS ne795 nin0)).lt u841_1)
      have ne849 : vb_770 ≠ sa_842 := Nat.ne_of_lt (Nat.lt_of_lt_of_le ((((((((f769_3.ext E776).keep K783 (ninS ne780 nin0)).keep K798 (ninS ne780 (ninS ne792 (ninS ne796 nin0)))).keep K801 (ninS ne796 nin0)).keep K810 (ninS ne796 nin0)).keep K819 (ninS ne780 (ninS ne792 (ninS ne796 nin0)))).keep K822 (ninS ne796 nin0)).keep K831 (ninS ne796 nin0)).lt u841_1)
      have ne850 : b776 ≠ sa_842 := Nat.ne_of_lt (Nat.lt_of_lt_of_le fa835.lt u841_1)
      have ne851 : ka_784 ≠ sa_842 := Nat.ne_of_lt (Nat.lt_of_lt_of_le fa839.lt u841_1)
      have ne852 : ia_785 ≠ sa_842 := Nat.ne_of_lt (Nat.lt_of_lt_of_le ff834.lt u841_1)
      have ne853 : b742 ≠ vb_843 := Nat.ne_of_lt (Nat.lt_of_lt_of_le ((((((((f769_0.ext E776).keep K783).keep K798).keep K801).keep K810).keep K819).keep K822).keep K831).lt u841_3)
      have ne854 : b745 ≠ vb_843 := Nat.ne_of_lt (Nat.lt_of_lt_of_le ((((((((fa778.ext E776).keep K783 (ninS ne779 nin0)).keep K798 (ninS ne779 (ninS ne791 (ninS ne795 nin0)))).keep K801 (ninS ne795 nin0)).keep K810 (ninS ne795 nin0)).keep K819 (ninS ne779 (ninS ne791 (ninS ne795 nin0)))).keep K822 (ninS ne795 nin0)).keep K831 (ninS ne795 nin0)).lt u841_3)
      have ne855 : vb_770 ≠ vb_843 := Nat.ne_of_lt (Nat.lt_of_lt_of_le ((((((((f769_3.ext E776).keep K783 (ninS ne780 nin0)).keep K798 (ninS ne780 (ninS ne792 (ninS ne796 nin0)))).keep K801 (ninS ne796 nin0)).keep K810 (ninS ne796 nin0)).keep K819 (ninS ne780 (ninS ne792 (ninS ne796 nin0)))).keep K822 (ninS ne796 nin0)).keep K831 (ninS ne796 nin0)).lt u841_3)
      have ne856 : b776 ≠ vb_843 := Nat.ne_of_lt (Nat.lt_of_lt_of_le fa835.lt u841_3)
      have ne857 : ka_784 ≠ vb_843 := Nat.ne_of_lt (Nat.lt_of_lt_of_le fa839.lt u841_3)
      have ne858 : ia_785 ≠ vb_843 := Nat.ne_of_lt (Nat.lt_of_lt_of_le ff834.lt u841_3)
      have fa859 := (((((((((f769_0.ext E776).keep K783).keep K798).keep K801).keep K810).keep K819).keep K822).keep K831).keep K841)
      have fa860 := (((((((((f769_1.ext E776).keep K783 (ninS ne777 nin0)).keep K798 (ninS ne777 (ninS ne790 (ninS ne794 nin0)))).keep K801 (ninS ne794 nin0)).keep K810 (ninS ne794 nin0)).keep K819 (ninS ne777 (ninS ne790 (ninS ne794 nin0)))).keep K822 (ninS ne794 nin0)).keep K831 (ninS ne794 nin0)).keep K841 nin0)
      have fa861 := (((((((((f769_2.ext E776).keep K783 (ninS ne777 nin0)).keep K798 (ninS ne777 (ninS ne790 (ninS ne794 nin0)))).keep K801 (ninS ne794 nin0)).keep K810 (ninS ne794 nin0)).keep K819 (ninS ne777 (ninS ne790 (ninS ne794 nin0)))).keep K822 (ninS ne794 nin0)).keep K831 (ninS ne794 nin0)).keep K841 nin0)
      have fa862 := (((((((((f769_3.ext E776).keep K783 (ninS ne780 nin0)).keep K798 (ninS ne780 (ninS ne792 (ninS ne796 nin0)))).keep K801 (ninS ne796 nin0)).keep K810 (ninS ne796 nin0)).keep K819 (ninS ne780 (ninS ne792 (ninS ne796 nin0)))).keep K822 (ninS ne796 nin0)).keep K831 (ninS ne796 nin0)).keep K841 nin0)
      have fa863 := (fa840.keep K841 all0)
      obtain ⟨cq864, kq864, q864a, q864b, q864c⟩ := isOf hZ rfl f841_0
      obtain ⟨_, _, ⟨T864, L864, k864, n864⟩, -, X864, ⟨Lc864, hQ864, l864, y864, z864⟩, st864⟩ := X841.virtualBack hx (y := oM30) (z := oM30) hown (mvT hZ (ow hw 114 rfl)) (mvT hZ (ow hw 115 rfl)) (notFace_of_selects (args := #[]) (mvT hZ (ow hw 117 rfl))) (mvT hZ (ow hw 117 rfl)) (mvT hZ (ow hw 116 rfl)) (by decide) (backOf (W := 0) (rm19n4 l Z a0 hw [] sa_842 b742 vb_843 kb_844 vb_770 kb_771 (47 : Int32) (49 : Int32) (47 : Int32) (49 : Int32) cs T841.heap n0 Z846 f841_0 f841_1 f841_2 f841_3 fa859 fa860 fa861 fa862 (Ne.symm ne847) Cs (by first | assumption | decide | omega) fa863) hZ (ow hw 118 rfl) (ow hw 2 rfl) (by decide) (by decide)) q864a q864c (g := (mkF m 167 #[.val (.int p0), .val (.int p1), .val (.int 2), .val (.int 2), .val (.ref b742), .val (.ref b776)] [(.ref b742), (.ref sa_842)])) rfl (by rw [hml]; rfl) (Steps.refl _) (argsL := [(.ref b742)]) (rest := []) (lenOf pd32 rfl) rfl (Nat.le_of_eq rfl) (hb hby at_167) (fun _ _ => ⟨rfl, rfl, (by decide : 10 + 0 ≤ _), (by decide : 75 + 0 ≤ _)⟩)
      dsimp only [Pt.U, Pt.locs, Pt.cells, Pt.slots] at X864 l864 y864 z864 st864 hQ864
      subst l864 y864 z864
      obtain ⟨rfl, N864q, e864⟩ := hQ864
      have N864 := Fr.app N841 N864q
      have fa865 := (fa835.keep K841)
      have fa866 := (fa837.keep K841 nin0)
      have fa867 := (fa838.keep K841 nin0)
      have fa868 := (ff834.keep K841 nin0)
      obtain ⟨cq869, kq869, q869a, q869b, q869c⟩ := isOf hZ e864 fa865
      obtain ⟨_, _, ⟨T869, L869, k869, n869⟩, -, X869, ⟨Lc869, hQ869, l869, y869, z869⟩, st869⟩ := X864.virtualBack hx (y := oM6) (z := oM6) hown (mvT hZ (ow hw 125 rfl)) (mvT hZ (ow hw 126 rfl)) (notFace_of_selects (args := #[]) (mvT hZ (ow hw 128 rfl))) (mvT hZ (ow hw 128 rfl)) (mvT hZ (ow hw 127 rfl)) (by decide) (backOf (W := 0) (rm21 l Z a0 hw [] b776 ia_785 ki_787 (1 : Int32) (1 : Int32) T841.heap n0 Z846 fa865 fa866 fa867 fa868 (by first | assumption | decide | omega) (by first | assumption | decide | omega)) hZ (ow hw 129 rfl) (ow hw 11 rfl) (by decide) (by decide)) q869a q869c (g := (mkF m 175 #[.val (.int p0), .val (.int p1), .val (.int 2), .val (.int 2), .val (.ref b742), .val (.ref b776)] [(.ref b776)])) rfl (by rw [hml]; rfl) (Steps.refl _) (argsL := []) (rest := []) (lenOf pd2 rfl) rfl (Nat.le_of_eq rfl) (hb hby at_175) (fun _ _ => ⟨rfl, e864, (by decide : 10 + 0 ≤ _), (by decide : 75 + 0 ≤ _)⟩)
      dsimp only [Pt.U, Pt.locs, Pt.cells, Pt.slots] at X869 l869 y869 z869 st869 hQ869
      subst l869 y869 z869
      obtain ⟨rfl, N869q, e869⟩ := hQ869
      have N869 := Fr.app N864 N869q
      obtain ⟨cq870, kq870, q870a, q870b, q870c⟩ := isOf hZ e869 fa865
      obtain ⟨_, _, ⟨T870, L870, k870, n870⟩, -, X870, ⟨Lc870, hQ870, l870, y870, z870⟩, st870⟩ := X869.virtualBack hx (y := oM4) (z := oM4) hown (mvT hZ (ow hw 135 rfl)) (mvT hZ (ow hw 136 rfl)) (notFace_of_selects (args := #[]) (mvT hZ (ow hw 138 rfl))) (mvT hZ (ow hw 138 rfl)) (mvT hZ (ow hw 137 rfl)) (by decide) (backOf (W := 0) (rm23 l Z a0 hw [] b776 T841.heap n0 Z846 fa867) hZ (ow hw 139 rfl) (ow hw 11 rfl) (by decide) (by decide)) q870a q870c (g := (mkF m 192 #[.val (.int p0), .val (.int p1), .val (.int 2), .val (.int 2), .val (.ref b742), .val (.ref b776)] [(.ref b776)])) rfl (by rw [hml]; rfl) (Steps.refl _) (argsL := []) (rest := []) (lenOf pd12 rfl) rfl (Nat.le_of_eq rfl) (hb hby at_192) (fun _ _ => ⟨rfl, e869, (by decide : 10 + 0 ≤ _), (by decide : 75 + 0 ≤ _)⟩)
      dsimp only [Pt.U, Pt.locs, Pt.cells, Pt.slots] at X870 l870 y870 z870 st870 hQ870
      subst l870 y870 z870
      obtain ⟨rfl, N870q, e870⟩ := hQ870
      have N870 := Fr.app N869 N870q
      obtain ⟨fsZ, hrZ, hrun, hended, hRE⟩ := X870.leaveW hS0 (by rw [e870]; exact hk845) (v := some (.int 1)) (fun h => by rw [Bd.returns] at h; cases h)
      refine ⟨_, _, pre1 _ ?_, hrun, hended, _, _, rfl, ?_, hRE.1, hRE.2.1, hRE.2.2.1, hRE.2.2.2.mono (by decide) (by decide)⟩
      · show Steps _ _ _ (s₁.setTop (mkF m 14 #[.val (.int p0), .val (.int p1), .val (.int 2), .val (.int 2), .unset, .unset] [])) _
        refine XS.iloadN X0.here hx rfl (hb hby at_14) rfl  ?_
        refine XS.ifYes X0.here hx rfl (pc0 := 15) (pc' := 25) rfl (hb hby at_15) rfl ((if0 _ _).trans (feq (by decide)).2) (by decide) (by decide) ?_
        refine XS.iloadN X0.here hx rfl (hb hby at_25) rfl  ?_
        refine XS.ifYes X0.here hx rfl (pc0 := 26) (pc' := 59) rfl (hb hby at_26) rfl ((if0 _ _).trans (feq (by decide)).2) (by decide) (by decide) ?_
        show Steps _ _ _ (s₁.setTop (mkF m 59 #[.val (.int p0), .val (.int p1), .val (.int 2), .val (.int 2), .unset, .unset] [])) _
        refine st742 _ ?_
        refine XS.dup X742.here hx rfl (hb hby at_62) rfl rfl ?_
        refine XS.iconst X742.here hx rfl (hb hby at_63) ?_
        show Steps _ _ _ (T742.setTop (mkF m 64 #[.val (.int p0), .val (.int p1), .val (.int 2), .val (.int 2), .unset, .unset] [(.int 4), (.ref b742), (.ref b742)])) _
        refine st745 _ ?_
        refine XS.dup X745.here hx rfl (hb hby at_66) rfl rfl ?_
        refine XS.iconst X745.here hx rfl (hb hby at_67) ?_
        refine XS.bipush X745.here hx rfl (hb hby at_68) ?_
        show Steps _ _ _ (T745.setTop (mkF m 70 #[.val (.int p0), .val (.int p1), .val (.int 2), .val (.int 2), .unset, .unset] [(.int 47), (.int 0), (.ref b745), (.ref b745), (.ref b742), (.ref b742)])) _
        refine st750 _ ?_
        refine XS.dup X750.here hx rfl (hb hby at_71) rfl rfl ?_
        refine XS.iconst X750.here hx rfl (hb hby at_72) ?_
        refine XS.bipush X750.here hx rfl (hb hby at_73) ?_
        refine XS.iloadN X750.here hx rfl (hb hby at_75) rfl  ?_
        refine XS.iadd X750.here hx rfl (hb hby at_76) rfl ?_
        show Steps _ _ _ (T750.setTop (mkF m 77 #[.val (.int p0), .val (.int p1), .val (.int 2), .val (.int 2), .unset, .unset] [(.int ((48 : Int32) + (2 : Int32))), (.int 1), (.ref b745), (.ref b745), (.ref b742), (.ref b742)])) _
        rw [show ((48 : Int32) + (2 : Int32)) = (50 : Int32) from by decide]
        show Steps _ _ _ (T750.setTop (mkF m 77 #[.val (.int p0), .val (.int p1), .val (.int 2), .val (.int 2), .unset, .unset] [(.int 50), (.int 1), (.ref b745), (.ref b745), (.ref b742), (.ref b742)])) _
        refine XS.iconst X750.here hx rfl (hb hby at_77) ?_
        refine XS.isub X750.here hx rfl (hb hby at_78) rfl ?_
        show Steps _ _ _ (T750.setTop (mkF m 79 #[.val (.int p0), .val (.int p1), .val (.int 2), .val (.int 2), .unset, .unset] [(.int ((50 : Int32) - (1 : Int32))), (.int 1), (.ref b745), (.ref b745), (.ref b742), (.ref b742)])) _
        rw [show ((50 : Int32) - (1 : Int32)) = (49 : Int32) from by decide]
        show Steps _ _ _ (T750.setTop (mkF m 79 #[.val (.int p0), .val (.int p1), .val (.int 2), .val (.int 2), .unset, .unset] [(.int 49), (.int 1), (.ref b745), (.ref b745), (.ref b742), (.ref b742)])) _
        refine XS.i2c X750.here hx rfl (hb hby at_79) rfl ?_
        show Steps _ _ _ (T750.setTop (mkF m 80 #[.val (.int p0), .val (.int p1), .val (.int 2), .val (.int 2), .unset, .unset] [(.int ((49 : Int32).toUInt32.toUInt16.toUInt32.toInt32)), (.int 1), (.ref b745), (.ref b745), (.ref b742), (.ref b742)])) _
        rw [show ((49 : Int32).toUInt32.toUInt16.toUInt32.toInt32) = (49 : Int32) from by decide]
        show Steps _ _ _ (T750.setTop (mkF m 80 #[.val (.int p0), .val (.int p1), .val (.int 2), .val (.int 2), .unset, .unset] [(.int 49), (.int 1), (.ref b745), (.ref b745), (.ref b742), (.ref b742)])) _
        refine st754 _ ?_
        refine XS.dup X754.here hx rfl (hb hby at_81) rfl rfl ?_
        refine XS.iconst X754.here hx rfl (hb hby at_82) ?_
        refine XS.bipush X754.here hx rfl (hb hby at_83) ?_
        show Steps _ _ _ (T754.setTop (mkF m 85 #[.val (.int p0), .val (.int p1), .val (.int 2), .val (.int 2), .unset, .unset] [(.int 47), (.int 2), (.ref b745), (.ref b745), (.ref b742), (.ref b742)])) _
        refine st758 _ ?_
        refine XS.dup X758.here hx rfl (hb hby at_86) rfl rfl ?_
        refine XS.iconst X758.here hx rfl (hb hby at_87) ?_
        refine XS.bipush X758.here hx rfl (hb hby at_88) ?_
        refine XS.iloadN X758.here hx rfl (hb hby at_90) rfl  ?_
        refine XS.iadd X758.here hx rfl (hb hby at_91) rfl ?_
        show Steps _ _ _ (T758.setTop (mkF m 92 #[.val (.int p0), .val (.int p1), .val (.int 2), .val (.int 2), .unset, .unset] [(.int ((48 : Int32) + (2 : Int32))), (.int 3), (.ref b745), (.ref b745), (.ref b742), (.ref b742)])) _
        rw [show ((48 : Int32) + (2 : Int32)) = (50 : Int32) from by decide]
        show Steps _ _ _ (T758.setTop (mkF m 92 #[.val (.int p0), .val (.int p1), .val (.int 2), .val (.int 2), .unset, .unset] [(.int 50), (.int 3), (.ref b745), (.ref b745), (.ref b742), (.ref b742)])) _
        refine XS.iconst X758.here hx rfl (hb hby at_92) ?_
        refine XS.isub X758.here hx rfl (hb hby at_93) rfl ?_
        show Steps _ _ _ (T758.setTop (mkF m 94 #[.val (.int p0), .val (.int p1), .val (.int 2), .val (.int 2), .unset, .unset] [(.int ((50 : Int32) - (1 : Int32))), (.int 3), (.ref b745), (.ref b745), (.ref b742), (.ref b742)])) _
        rw [show ((50 : Int32) - (1 : Int32)) = (49 : Int32) from by decide]
        show Steps _ _ _ (T758.setTop (mkF m 94 #[.val (.int p0), .val (.int p1), .val (.int 2), .val (.int 2), .unset, .unset] [(.int 49), (.int 3), (.ref b745), (.ref b745), (.ref b742), (.ref b742)])) _
        refine XS.i2c X758.here hx rfl (hb hby at_94) rfl ?_
        show Steps _ _ _ (T758.setTop (mkF m 95 #[.val (.int p0), .val (.int p1), .val (.int 2), .val (.int 2), .unset, .unset] [(.int ((49 : Int32).toUInt32.toUInt16.toUInt32.toInt32)), (.int 3), (.ref b745), (.ref b745), (.ref b742), (.ref b742)])) _
        rw [show ((49 : Int32).toUInt32.toUInt16.toUInt32.toInt32) = (49 : Int32) from by decide]
        show Steps _ _ _ (T758.setTop (mkF m 95 #[.val (.int p0), .val (.int p1), .val (.int 2), .val (.int 2), .unset, .unset] [(.int 49), (.int 3), (.ref b745), (.ref b745), (.ref b742), (.ref b742)])) _
        refine st762 _ ?_
        show Steps _ _ _ (T762.setTop (mkF m 96 #[.val (.int p0), .val (.int p1), .val (.int 2), .val (.int 2), .unset, .unset] [(.ref b745), (.ref b742), (.ref b742)])) _
        refine st769.trans ?_
        refine XS.astore X769.here hx rfl (hb hby at_99) rfl rfl (l' := #[.val (.int p0), .val (.int p1), .val (.int 2), .val (.int 2), .val (.ref b742), .unset]) rfl ?_
        show Steps _ _ _ (T769.setTop (mkF m 101 #[.val (.int p0), .val (.int p1), .val (.int 2), .val (.int 2), .val (.ref b742), .unset] [])) _
        refine st776 _ ?_
        refine XS.dup X776.here hx rfl (hb hby at_104) rfl rfl ?_
        show Steps _ _ _ (T776.setTop (mkF m 105 #[.val (.int p0), .val (.int p1), .val (.int 2), .val (.int 2), .val (.ref b742), .unset] [(.ref b776), (.ref b776)])) _
        refine st783.trans ?_
        refine XS.astore X783.here hx rfl (hb hby at_108) rfl rfl (l' := #[.val (.int p0), .val (.int p1), .val (.int 2), .val (.int 2), .val (.ref b742), .val (.ref b776)]) rfl ?_
        refine XS.aload X783.here hx rfl (hb hby at_110) rfl rfl ?_
        show Steps _ _ _ (T783.setTop (mkF m 112 #[.val (.int p0), .val (.int p1), .val (.int 2), .val (.int 2), .val (.ref b742), .val (.ref b776)] [(.ref b776)])) _
        refine st798.trans ?_
        refine XS.iloadN X798.here hx rfl (hb hby at_115) rfl  ?_
        refine XS.iconst X798.here hx rfl (hb hby at_116) ?_
        refine XS.icmpNo X798.here hx rfl (hb hby at_117) rfl (flt (by decide)).1 ?_
        refine XS.aload X798.here hx rfl (hb hby at_120) rfl rfl ?_
        show Steps _ _ _ (T798.setTop (mkF m 122 #[.val (.int p0), .val (.int p1), .val (.int 2), .val (.int 2), .val (.ref b742), .val (.ref b776)] [(.ref b776)])) _
        refine st801.trans ?_
        refine XS.iloadN X801.here hx rfl (hb hby at_125) rfl  ?_
        refine XS.iconst X801.here hx rfl (hb hby at_126) ?_
        refine XS.icmpNo X801.here hx rfl (hb hby at_127) rfl (flt (by decide)).1 ?_
        refine XS.aload X801.here hx rfl (hb hby at_130) rfl rfl ?_
        show Steps _ _ _ (T801.setTop (mkF m 132 #[.val (.int p0), .val (.int p1), .val (.int 2), .val (.int 2), .val (.ref b742), .val (.ref b776)] [(.ref b776)])) _
        refine st810.trans ?_
        refine XS.aload X810.here hx rfl (hb hby at_135) rfl rfl ?_
        show Steps _ _ _ (T810.setTop (mkF m 137 #[.val (.int p0), .val (.int p1), .val (.int 2), .val (.int 2), .val (.ref b742), .val (.ref b776)] [(.ref b776)])) _
        refine st819.trans ?_
        refine XS.iloadN X819.here hx rfl (hb hby at_140) rfl  ?_
        refine XS.iconst X819.here hx rfl (hb hby at_141) ?_
        refine XS.icmpNo X819.here hx rfl (hb hby at_142) rfl (flt (by decide)).1 ?_
        refine XS.aload X819.here hx rfl (hb hby at_145) rfl rfl ?_
        show Steps _ _ _ (T819.setTop (mkF m 147 #[.val (.int p0), .val (.int p1), .val (.int 2), .val (.int 2), .val (.ref b742), .val (.ref b776)] [(.ref b776)])) _
        refine st822.trans ?_
        refine XS.iloadN X822.here hx rfl (hb hby at_150) rfl  ?_
        refine XS.iconst X822.here hx rfl (hb hby at_151) ?_
        refine XS.icmpNo X822.here hx rfl (hb hby at_152) rfl (flt (by decide)).1 ?_
        refine XS.aload X822.here hx rfl (hb hby at_155) rfl rfl ?_
        show Steps _ _ _ (T822.setTop (mkF m 157 #[.val (.int p0), .val (.int p1), .val (.int 2), .val (.int 2), .val (.ref b742), .val (.ref b776)] [(.ref b776)])) _
        refine st831.trans ?_
        refine XS.aload X831.here hx rfl (hb hby at_160) rfl rfl ?_
        show Steps _ _ _ (T831.setTop (mkF m 162 #[.val (.int p0), .val (.int p1), .val (.int 2), .val (.int 2), .val (.ref b742), .val (.ref b776)] [(.ref b776)])) _
        refine st841.trans ?_
        refine XS.aload X841.here hx rfl (hb hby at_165) rfl rfl ?_
        show Steps _ _ _ (T841.setTop (mkF m 167 #[.val (.int p0), .val (.int p1), .val (.int 2), .val (.int 2), .val (.ref b742), .val (.ref b776)] [(.ref b742), (.ref sa_842)])) _
        refine st864.trans ?_
        refine XS.ifNo X864.here hx rfl (hb hby at_170) rfl ((if0 _ _).trans (feq (by decide)).1) ?_
        refine XS.aload X864.here hx rfl (hb hby at_173) rfl rfl ?_
        show Steps _ _ _ (T864.setTop (mkF m 175 #[.val (.int p0), .val (.int p1), .val (.int 2), .val (.int 2), .val (.ref b742), .val (.ref b776)] [(.ref b776)])) _
        refine st869.trans ?_
        refine XS.iloadN X869.here hx rfl (hb hby at_178) rfl  ?_
        refine XS.ifYes X869.here hx rfl (pc0 := 179) (pc' := 186) rfl (hb hby at_179) rfl ((if0 _ _).trans (feq (by decide)).2) (by decide) (by decide) ?_
        refine XS.iconst X869.here hx rfl (hb hby at_186) ?_
        refine XS.icmpNo X869.here hx rfl (hb hby at_187) rfl (teq (by decide)).2 ?_
        refine XS.aload X869.here hx rfl (hb hby at_190) rfl rfl ?_
        show Steps _ _ _ (T869.setTop (mkF m 192 #[.val (.int p0), .val (.int p1), .val (.int 2), .val (.int 2), .val (.ref b742), .val (.ref b776)] [(.ref b776)])) _
        refine st870.trans ?_
        refine XS.iconst X870.here hx rfl (hb hby at_195) ?_
        refine XS.icmpNo X870.here hx rfl (hb hby at_196) rfl (teq (by decide)).2 ?_
        refine XS.iconst X870.here hx rfl (hb hby at_199) ?_
        refine XS.goto X870.here hx rfl (pc0 := 200) (pc' := 204) rfl (hb hby at_200) (by decide) (by decide) ?_
        show Steps _ _ _ (T870.setTop (mkF m 204 #[.val (.int p0), .val (.int p1), .val (.int 2), .val (.int 2), .val (.ref b742), .val (.ref b776)] [(.int 1)])) _
        exact retN X870 hx (t := .boolean) Bd.returns (by simp) (hb hby at_204) hrZ
      · show Q0 Z p0 p1 cs da cd h0 n0 _ T870.heap _
        rw [e870]
        exact ⟨rfl, N870⟩
theorem comes_1 {Post : Tables → Env → Array Value → State → Outcome → State → Prop} (hpost : ∀ tb e args s v u, (limb_1_1.after args s (.returned v) u = true ∧ limb_1_2.after args s (.returned v) u = true ∧ True) → ReturnedEndW s (.returned v) u (Jvm.fieldLocs frame_1_writes args s ++ Jvm.arrayLocs frame_1_arrays args s ++ Jvm.staticLocs frame_1_statics s) 32 1280 → Post tb e args s (.returned v) u) :
    ArmFor flags0 classFile x code maxLocals ret World_1 tables_1 room_1 Calls_1 rest_1 Pre_1 Post := by
  intro l hfl _ _ p e ha hc hk s m args below hf hA hF happ hP
  obtain ⟨hcalls, hrest, hpre⟩ := hP
  obtain ⟨-, -, -, hnamed, -, -, -, hat⟩ := (Spec.applies_iff hf).mp happ
  obtain ⟨hg, hn⟩ := and_e (Cond.before_iff.mp (show (Jvm.Cond.and given_1 narrow_1).before args s = true from hpre))
  obtain ⟨g1, g2⟩ := and_e hg
  obtain ⟨g3, g4⟩ := and_e g2
  obtain ⟨w0, w1, rfl⟩ : ∃ w0 w1 : Value, args = #[w0, w1] := by
    have hs : args.size = 2 := by simpa [Cond.value, given_1] using g1
    obtain ⟨L⟩ := args
    match L, hs with
    | [w0, w1], _ => exact ⟨w0, w1, rfl⟩
  have hw := fun d (hd : d ∈ tables_1) => atoms_spec (ws := Jvm.Cond.code x code maxLocals ret :: tables_1) hat d (List.mem_cons_of_mem _ hd)
  have hfit : Fit s := fun {y c} hc i hi => by
    obtain ⟨ha, rfl⟩ := Array.getElem?_eq_some_iff.mp hc
    have q := List.all_eq_true.mp ((Array.all_eq_true_iff_forall_mem.mp hF) _ (Array.getElem_mem ha)) i (List.mem_range.mpr hi)
    simpa [Array.getElem?_eq_getElem hi] using q
  obtain ⟨hsets, hown0⟩ := atoms_of _ (rest_1_c_eq ▸ (show rest_1_c.before _ s = true from hrest))
  have hr0 := Cond.before_iff.mp hown0
  obtain ⟨i0, ei0⟩ := is_v g3
  obtain rfl : w0 = (.int i0) := Option.some.inj ei0
  obtain ⟨i1, ei1⟩ := is_v g4
  obtain rfl : w1 = (.int i1) := Option.some.inj ei1
  obtain ⟨cs, ecs⟩ := is_v (Cond.before_iff.mp (hsets _ (List.mem_of_getElem? (i := 1) rfl)))
  have hcw : Jvm.Lit.compactW.before _ s = true := (hsets _ (List.mem_of_getElem? (i := 2) rfl))
  have hcs := own_cs hcw ecs
  have Cs := Sta.start ecs (Or.inl (hsets _ (List.mem_of_getElem? (i := 0) rfl)))
  obtain ⟨da, cd, eda, Da, hds, hd0, hd1⟩ := own_dig (hsets _ (List.mem_of_getElem? (i := 12) rfl)) (hsets _ (List.mem_of_getElem? (i := 13) rfl)) (ow hw 4 rfl) (hsets _ (List.mem_of_getElem? (i := 14) rfl))
  have Dd := Sta.start eda (Or.inl (hsets _ (List.mem_of_getElem? (i := 11) rfl)))
  have hch : Jvm.Lit.constHeld s "com/example/hewgen/hewgen/runtime/JsonPathNextIndexPinLaw" 8 := hcalls.1 _ (List.mem_of_getElem? (i := 0) rfl)
  obtain ⟨n, o, h1, h2, h3, _, L, rfl, ⟨rfl, N⟩, hq⟩ := rm0 l s _ hw tables_1 i0 i1 cs da cd s.heap s.heap.size (Nat.le_refl _) Cs hcs (Old.start s) Dd Da hds hd0 hd1 hch hcw p e ha hc hk s m _ below hf ((Spec.applies_iff_loose hf).mp happ).1 ⟨rfl, State.Warmed39.refl s, rfl, rfl⟩ trivial
  refine ⟨n, _, h1, h2, h3, hpost _ _ _ _ _ _ ⟨Cond.after_iff.mpr rfl, Cond.after_iff.mpr (eq_i res_at (Term.int_eval (1)) rfl), trivial⟩ ⟨hq.1, hq.2.1, hq.2.2.1, (hq.2.2.2.sift fun y hy => Or.inr (N y hy)).mono (by decide) (by decide)⟩⟩
theorem main_1_1 : Claimed_1_1 := comes_1 fun _ _ _ _ _ _ h hF => ⟨h.1, hF⟩
theorem main_1_2 : Claimed_1_2 := comes_1 fun _ _ _ _ _ _ h hF => ⟨h.2.1, hF⟩
end Jvm.Pilot.@@N@@
namespace Jvm.Pilot.@@N@@
open Jvm Jvm.ClassFile Sem Op Lib Jvm.Free Jvm.Stand Jvm.Pilot.@@N@@.Jvm.D
/-! MADE BY PROGRAM (witnessworld.py) out of the Statement's table words and the real class files: 29 classes; the members and pool entries that the words name. The judged class is class 1, her method 1. -/
namespace start1
open Jvm.ClassFile
def u (s : String) : CpInfo := .utf8 (stringToUtf16 s)
/-- a pool by its gaps: so many unusable entries, then the entry; so many at the end -/
def gap : Nat → List CpInfo → List CpInfo
  | 0, r => r
  | n + 1, r => .unusable :: gap n r
def poolList (es : List (Nat × CpInfo)) (last : Nat) : List CpInfo := es.foldr (fun e r => gap e.1 (e.2 :: r)) (gap last [])
def pool (es : List (Nat × CpInfo)) (last : Nat) : Array CpInfo := ⟨poolList es last⟩
def fileOf (pool : Array CpInfo) (this : Nat) (attrs : Array Attribute := #[]) (ms : Array MethodInfo := #[]) (fl : Nat := 33) (sup : Nat := 0) (ifs : Array Nat := #[]) (fds : Array FieldInfo := #[]) : ClassFile where
  minorVersion := 0
  majorVersion := 65
  constantPool := pool
  accessFlags := fl
  thisClass := this
  superClass := sup
  interfaces := ifs
  fields := fds
  methods := ms
  attributes := attrs
def plain (name : String) (sup : Option ClassId) : Class where
  name := name
  kind := .ordinary
  loader := none
  accessFlags := 33
  super := sup
  interfaces := #[]
  cf := none
  fields := #[]
  methods := #[]
  instanceTypes := #[]
  staticTypes := #[]
  resolved := #[]
  callSites := []
  init := .initialized
  statics := none
  mirror := none

def pool0 : Array CpInfo := pool [(5, u "<init>"), (0, u "()V"), (1, .class_ 10), (1, u "java/lang/Object")] 113

def k0c0 : Code := { maxStack := 0, maxLocals := 1, code := object_method_1_code, exceptionTable := #[], attributes := #[] }
def k0m0 : Method := { name := "<init>", desc := "()V", sig := { parameters := [], returnType := none }, accessFlags := 1, code := some k0c0 }
/-- java/lang/Object -/
def k0 : Class := { plain "java/lang/Object" none with
  accessFlags := 33
  interfaces := #[]
  cf := some (fileOf pool0 8 #[] #[{ accessFlags := 1, nameIndex := 5, descriptorIndex := 6, attributes := #[] }] 33 0 #[] #[])
  fields := #[]
  methods := #[k0m0]
  instanceTypes := #[]
  staticTypes := #[]
  resolved := Array.replicate 124 none
  statics := none }

def pool1 : Array CpInfo := pool [(2, .class_ 4), (0, .nameAndType 5 6), (0, u "java/lang/Object"), (0, u "<init>"), (0, u "()V"), (0, .integer 2147483647), (0, .string 9), (0, u ""), (0, .class_ 11), (0, u "java/lang/String"), (0, .methodref 10 13), (0, .nameAndType 5 14), (0, u "([C)V"), (0, .class_ 16), (0, u "com/example/hewgen/hewgen/runtime/JsonPath"), (0, .methodref 15 3), (0, .methodref 15 19), (0, .nameAndType 20 6), (0, u "enterArray"), (0, .methodref 15 22), (0, .nameAndType 23 6), (0, u "nextIndex"), (0, .methodref 15 25), (0, .nameAndType 26 27), (0, u "pointer"), (0, u "()Ljava/lang/String;"), (0, .methodref 10 29), (0, .nameAndType 30 31), (0, u "equals"), (0, u "(Ljava/lang/Object;)Z"), (0, .methodref 15 33), (0, .nameAndType 34 35), (0, u "atStart"), (0, u "()Z"), (0, .methodref 15 37), (0, .nameAndType 38 39), (0, u "depth"), (0, u "()I"), (0, .class_ 41), (0, u "com/example/hewgen/hewgen/runtime/JsonPathNextIndexPinLaw"), (2, u "law"), (0, u "(II)Z")] 3

def k1m0 : Method := { name := "<init>", desc := "()V", sig := { parameters := [], returnType := none }, accessFlags := 1, code := none }
def k1c1 : Code := { maxStack := 7, maxLocals := 6, code := code, exceptionTable := #[], attributes := #[] }
def k1m1 : Method := { name := "law", desc := "(II)Z", sig := { parameters := [.int, .int], returnType := some .boolean }, accessFlags := 9, code := some k1c1 }
/-- com/example/hewgen/hewgen/runtime/JsonPathNextIndexPinLaw -/
def k1 : Class := { plain "com/example/hewgen/hewgen/runtime/JsonPathNextIndexPinLaw" (some 0) with
  accessFlags := 49
  interfaces := #[]
  cf := some (fileOf pool1 40 #[] #[{ accessFlags := 1, nameIndex := 5, descriptorIndex := 6, attributes := #[] }, { accessFlags := 9, nameIndex := 44, descriptorIndex := 45, attributes := #[] }] 49 2 #[] #[])
  fields := #[]
  methods := #[k1m0, k1m1]
  instanceTypes := #[]
  staticTypes := #[]
  resolved := Array.replicate 49 none
  statics := none }

def pool2 : Array CpInfo := pool [(1, .class_ 2), (0, u "java/io/Serializable"), (0, .class_ 4), (0, u "java/lang/Object")] 2

/-- java/io/Serializable -/
def k2 : Class := { plain "java/io/Serializable" (some 0) with
  accessFlags := 1537
  interfaces := #[]
  cf := some (fileOf pool2 1 #[] #[] 1537 3 #[] #[])
  fields := #[]
  methods := #[]
  instanceTypes := #[]
  staticTypes := #[]
  resolved := Array.replicate 7 none
  statics := none }

def pool3 : Array CpInfo := pool [(1, .class_ 2), (0, u "java/lang/Comparable"), (0, .class_ 4), (0, u "java/lang/Object")] 7

/-- java/lang/Comparable -/
def k3 : Class := { plain "java/lang/Comparable" (some 0) with
  accessFlags := 1537
  interfaces := #[]
  cf := some (fileOf pool3 1 #[] #[] 1537 3 #[] #[])
  fields := #[]
  methods := #[]
  instanceTypes := #[]
  staticTypes := #[]
  resolved := Array.replicate 12 none
  statics := none }

def pool4 : Array CpInfo := pool [(2, .class_ 4), (1, u "java/lang/CharSequence"), (42, .class_ 48), (0, u "java/lang/CharSequence$1CodePointIterator"), (10, .class_ 60), (0, u "java/lang/CharSequence$1CharIterator"), (5, .class_ 67), (0, u "java/lang/Object")] 63

/-- java/lang/CharSequence -/
def k4 : Class := { plain "java/lang/CharSequence" (some 0) with
  accessFlags := 1537
  interfaces := #[]
  cf := some (fileOf pool4 2 #[.nestMembers #[47, 59]] #[] 1537 66 #[] #[])
  fields := #[]
  methods := #[]
  instanceTypes := #[]
  staticTypes := #[]
  resolved := Array.replicate 131 none
  statics := none }

def pool5 : Array CpInfo := pool [(1, .class_ 2), (0, u "java/lang/constant/Constable"), (0, .class_ 4), (0, u "java/lang/Object")] 6

/-- java/lang/constant/Constable -/
def k5 : Class := { plain "java/lang/constant/Constable" (some 0) with
  accessFlags := 1537
  interfaces := #[]
  cf := some (fileOf pool5 1 #[] #[] 1537 3 #[] #[])
  fields := #[]
  methods := #[]
  instanceTypes := #[]
  staticTypes := #[]
  resolved := Array.replicate 11 none
  statics := none }

def pool6 : Array CpInfo := pool [(1, .class_ 2), (0, u "java/lang/constant/ConstantDesc"), (0, .class_ 4), (0, u "java/lang/Object")] 32

/-- java/lang/constant/ConstantDesc -/
def k6 : Class := { plain "java/lang/constant/ConstantDesc" (some 0) with
  accessFlags := 1537
  interfaces := #[]
  cf := some (fileOf pool6 1 #[] #[] 1537 3 #[] #[])
  fields := #[]
  methods := #[]
  instanceTypes := #[]
  staticTypes := #[]
  resolved := Array.replicate 37 none
  statics := none }

def pool7 : Array CpInfo := pool [(1, .methodref 2 3), (0, .class_ 4), (0, .nameAndType 5 6), (0, u "java/lang/Object"), (0, u "<init>"), (0, u "()V"), (2, .fieldref 10 11), (0, .class_ 12), (0, .nameAndType 13 14), (0, u "java/lang/String"), (0, u "value"), (0, u "[B"), (0, .fieldref 10 16), (0, .nameAndType 17 18), (0, u "coder"), (0, u "B"), (2, u "hash"), (0, u "I"), (2, u "hashIsZero"), (0, u "Z"), (0, .methodref 10 28), (0, .nameAndType 5 29), (0, u "([CIILjava/lang/Void;)V"), (8, .fieldref 10 39), (0, .nameAndType 40 26), (0, u "COMPACT_STRINGS"), (1, .class_ 44), (1, u "java/lang/StringUTF16"), (0, u "compress"), (1, .methodref 42 48), (0, .nameAndType 49 50), (0, u "coderFromArrayLen"), (0, u "([BI)B"), (3, .methodref 55 56), (0, .class_ 57), (0, .nameAndType 58 59), (0, u "java/util/Arrays"), (0, u "copyOfRange"), (0, u "([BII)[B"), (47, .class_ 109), (1, u "java/lang/StringLatin1"), (32, u "()Z"), (34, .methodref 42 178), (0, .nameAndType 45 179), (0, u "([CII)[B"), (154, u "()I"), (5, u "()[B"), (148, .methodref 10 490), (0, .nameAndType 5 491), (0, u "(Ljava/lang/AbstractStringBuilder;Ljava/lang/Void;)V"), (1, .nameAndType 494 142), (0, u "isLatin1"), (11, .nameAndType 507 334), (0, u "length"), (33, .methodref 107 542), (0, .nameAndType 543 544), (0, u "equals"), (0, u "([B[B)Z"), (4, .methodref 550 506), (0, .class_ 551), (0, u "java/lang/AbstractStringBuilder"), (0, .methodref 550 553), (0, .nameAndType 554 340), (0, u "getValue"), (18, u "(Ljava/lang/Object;)Z"), (1, .class_ 576), (0, u "java/lang/CharSequence"), (22, u "CASE_INSENSITIVE_ORDER"), (0, u "Ljava/util/Comparator;"), (409, u "([C)V"), (36, .methodref 550 493), (53, u "serialPersistentFields"), (0, u "[Ljava/io/ObjectStreamField;"), (0, .class_ 1104), (0, u "java/lang/String$CaseInsensitiveComparator"), (1, .class_ 1107), (0, u "java/io/Serializable"), (0, .class_ 1109), (0, u "java/lang/Comparable"), (0, .class_ 1111), (0, u "java/lang/constant/Constable"), (0, .class_ 1113), (0, u "java/lang/constant/ConstantDesc"), (2, u "serialVersionUID"), (0, u "J"), (3, u "REPL"), (0, u "C"), (2, u "LATIN1"), (1, u "UTF16"), (105, u "(Ljava/lang/StringBuilder;)V")] 217

def k7m0 : Method := { name := "<init>", desc := "()V", sig := { parameters := [], returnType := none }, accessFlags := 1, code := none }
def k7c1 : Code := { maxStack := 5, maxLocals := 2, code := jdk_42_method_3_code, exceptionTable := #[], attributes := #[] }
def k7m1 : Method := { name := "<init>", desc := "([C)V", sig := { parameters := [(.array .char)], returnType := none }, accessFlags := 1, code := some k7c1 }
def k7c2 : Code := { maxStack := 3, maxLocals := 2, code := jdk_42_method_53_code, exceptionTable := #[], attributes := #[] }
def k7m2 : Method := { name := "<init>", desc := "(Ljava/lang/StringBuilder;)V", sig := { parameters := [(.object "java/lang/StringBuilder")], returnType := none }, accessFlags := 1, code := some k7c2 }
def k7c3 : Code := { maxStack := 2, maxLocals := 3, code := jdk_42_method_66_code, exceptionTable := #[], attributes := #[] }
def k7m3 : Method := { name := "equals", desc := "(Ljava/lang/Object;)Z", sig := { parameters := [(.object "java/lang/Object")], returnType := some .boolean }, accessFlags := 1, code := some k7c3 }
def k7c4 : Code := { maxStack := 4, maxLocals := 6, code := jdk_42_method_149_code, exceptionTable := #[], attributes := #[] }
def k7m4 : Method := { name := "<init>", desc := "([CIILjava/lang/Void;)V", sig := { parameters := [(.array .char), .int, .int, (.object "java/lang/Void")], returnType := none }, accessFlags := 2, code := some k7c4 }
def k7c5 : Code := { maxStack := 5, maxLocals := 5, code := jdk_42_method_150_code, exceptionTable := #[], attributes := #[] }
def k7m5 : Method := { name := "<init>", desc := "(Ljava/lang/AbstractStringBuilder;Ljava/lang/Void;)V", sig := { parameters := [(.object "java/lang/AbstractStringBuilder"), (.object "java/lang/Void")], returnType := none }, accessFlags := 0, code := some k7c5 }
/-- java/lang/String -/
def k7 : Class := { plain "java/lang/String" (some 0) with
  accessFlags := 49
  interfaces := #[2, 3, 4, 5, 6]
  cf := some (fileOf pool7 10 #[.nestMembers #[1103]] #[{ accessFlags := 1, nameIndex := 5, descriptorIndex := 6, attributes := #[] }, { accessFlags := 1, nameIndex := 5, descriptorIndex := 1010, attributes := #[] }, { accessFlags := 1, nameIndex := 5, descriptorIndex := 1233, attributes := #[] }, { accessFlags := 1, nameIndex := 543, descriptorIndex := 573, attributes := #[] }, { accessFlags := 2, nameIndex := 5, descriptorIndex := 29, attributes := #[] }, { accessFlags := 0, nameIndex := 5, descriptorIndex := 491, attributes := #[] }] 49 2 #[1106, 1108, 575, 1110, 1112] #[{ accessFlags := 18, nameIndex := 13, descriptorIndex := 14, attributes := #[] }, { accessFlags := 18, nameIndex := 17, descriptorIndex := 18, attributes := #[] }, { accessFlags := 2, nameIndex := 21, descriptorIndex := 22, attributes := #[] }, { accessFlags := 2, nameIndex := 25, descriptorIndex := 26, attributes := #[] }, { accessFlags := 26, nameIndex := 1116, descriptorIndex := 1117, attributes := #[] }, { accessFlags := 24, nameIndex := 40, descriptorIndex := 26, attributes := #[] }, { accessFlags := 26, nameIndex := 1101, descriptorIndex := 1102, attributes := #[] }, { accessFlags := 26, nameIndex := 1121, descriptorIndex := 1122, attributes := #[] }, { accessFlags := 25, nameIndex := 599, descriptorIndex := 600, attributes := #[] }, { accessFlags := 24, nameIndex := 1125, descriptorIndex := 18, attributes := #[] }, { accessFlags := 24, nameIndex := 1127, descriptorIndex := 18, attributes := #[] }])
  fields := #[{ name := "value", type := (.array .byte), accessFlags := 18, slot := 0, constantValue := 0 }, { name := "coder", type := .byte, accessFlags := 18, slot := 1, constantValue := 0 }, { name := "hash", type := .int, accessFlags := 2, slot := 2, constantValue := 0 }, { name := "hashIsZero", type := .boolean, accessFlags := 2, slot := 3, constantValue := 0 }, { name := "serialVersionUID", type := .long, accessFlags := 26, slot := 0, constantValue := 0 }, { name := "COMPACT_STRINGS", type := .boolean, accessFlags := 24, slot := 1, constantValue := 0 }, { name := "serialPersistentFields", type := (.array (.object "java/io/ObjectStreamField")), accessFlags := 26, slot := 2, constantValue := 0 }, { name := "REPL", type := .char, accessFlags := 26, slot := 3, constantValue := 0 }, { name := "CASE_INSENSITIVE_ORDER", type := (.object "java/util/Comparator"), accessFlags := 25, slot := 4, constantValue := 0 }, { name := "LATIN1", type := .byte, accessFlags := 24, slot := 5, constantValue := 0 }, { name := "UTF16", type := .byte, accessFlags := 24, slot := 6, constantValue := 0 }]
  methods := #[k7m0, k7m1, k7m2, k7m3, k7m4, k7m5]
  instanceTypes := #[(.array .byte), .byte, .int, .boolean]
  staticTypes := #[.long, .boolean, (.array (.object "java/io/ObjectStreamField")), .char, (.object "java/util/Comparator"), .byte, .byte]
  resolved := Array.replicate 1451 none
  statics := some 0 }

def pool8 : Array CpInfo := pool [(1, .methodref 2 3), (0, .class_ 4), (0, .nameAndType 5 6), (0, u "java/lang/Object"), (0, u "<init>"), (0, u "()V"), (0, .class_ 8), (0, u "java/lang/String"), (0, .fieldref 10 11), (0, .class_ 12), (0, .nameAndType 13 14), (0, u "com/example/hewgen/hewgen/runtime/JsonPath"), (0, u "keys"), (0, u "[Ljava/lang/String;"), (0, .fieldref 10 16), (0, .nameAndType 17 18), (0, u "indexes"), (0, u "[I"), (0, .fieldref 10 20), (0, .nameAndType 21 22), (0, u "depth"), (0, u "I"), (0, .methodref 10 24), (0, .nameAndType 25 26), (0, u "enter"), (0, u "(I)V"), (0, .methodref 10 28), (0, .nameAndType 29 30), (0, u "inArray"), (0, u "()Z"), (4, u "pointer"), (0, u "()Ljava/lang/String;"), (3, .class_ 41), (0, u "java/lang/StringBuilder"), (0, .methodref 40 3), (0, .methodref 40 44), (0, .nameAndType 45 46), (0, u "append"), (0, u "(C)Ljava/lang/StringBuilder;"), (0, .methodref 40 48), (0, .nameAndType 45 49), (0, u "(I)Ljava/lang/StringBuilder;"), (15, .methodref 40 66), (0, .nameAndType 67 36), (0, u "toString"), (16, u "MAX_DEPTH"), (2, u "IN_OBJECT"), (3, u "()I"), (1, u "enterArray"), (2, u "atStart"), (2, u "nextIndex")] 2

def k8c0 : Code := { maxStack := 2, maxLocals := 1, code := prog_48_method_1_code, exceptionTable := #[], attributes := #[] }
def k8m0 : Method := { name := "<init>", desc := "()V", sig := { parameters := [], returnType := none }, accessFlags := 0, code := some k8c0 }
def k8c1 : Code := { maxStack := 1, maxLocals := 1, code := prog_48_method_2_code, exceptionTable := #[], attributes := #[] }
def k8m1 : Method := { name := "depth", desc := "()I", sig := { parameters := [], returnType := some .int }, accessFlags := 0, code := some k8c1 }
def k8c2 : Code := { maxStack := 2, maxLocals := 1, code := prog_48_method_4_code, exceptionTable := #[], attributes := #[] }
def k8m2 : Method := { name := "enterArray", desc := "()V", sig := { parameters := [], returnType := none }, accessFlags := 0, code := some k8c2 }
def k8c3 : Code := { maxStack := 3, maxLocals := 1, code := prog_48_method_6_code, exceptionTable := #[], attributes := #[] }
def k8m3 : Method := { name := "inArray", desc := "()Z", sig := { parameters := [], returnType := some .boolean }, accessFlags := 0, code := some k8c3 }
def k8c4 : Code := { maxStack := 3, maxLocals := 1, code := prog_48_method_7_code, exceptionTable := #[], attributes := #[] }
def k8m4 : Method := { name := "atStart", desc := "()Z", sig := { parameters := [], returnType := some .boolean }, accessFlags := 0, code := some k8c4 }
def k8c5 : Code := { maxStack := 4, maxLocals := 1, code := prog_48_method_9_code, exceptionTable := #[], attributes := #[] }
def k8m5 : Method := { name := "nextIndex", desc := "()V", sig := { parameters := [], returnType := none }, accessFlags := 0, code := some k8c5 }
def k8c6 : Code := { maxStack := 4, maxLocals := 3, code := prog_48_method_11_code, exceptionTable := #[], attributes := #[] }
def k8m6 : Method := { name := "pointer", desc := "()Ljava/lang/String;", sig := { parameters := [], returnType := some (.object "java/lang/String") }, accessFlags := 0, code := some k8c6 }
def k8c7 : Code := { maxStack := 4, maxLocals := 2, code := prog_48_method_12_code, exceptionTable := #[], attributes := #[] }
def k8m7 : Method := { name := "enter", desc := "(I)V", sig := { parameters := [.int], returnType := none }, accessFlags := 2, code := some k8c7 }
/-- com/example/hewgen/hewgen/runtime/JsonPath -/
def k8 : Class := { plain "com/example/hewgen/hewgen/runtime/JsonPath" (some 0) with
  accessFlags := 48
  interfaces := #[]
  cf := some (fileOf pool8 10 #[] #[{ accessFlags := 0, nameIndex := 5, descriptorIndex := 6, attributes := #[] }, { accessFlags := 0, nameIndex := 21, descriptorIndex := 91, attributes := #[] }, { accessFlags := 0, nameIndex := 93, descriptorIndex := 6, attributes := #[] }, { accessFlags := 0, nameIndex := 29, descriptorIndex := 30, attributes := #[] }, { accessFlags := 0, nameIndex := 96, descriptorIndex := 30, attributes := #[] }, { accessFlags := 0, nameIndex := 99, descriptorIndex := 6, attributes := #[] }, { accessFlags := 0, nameIndex := 35, descriptorIndex := 36, attributes := #[] }, { accessFlags := 2, nameIndex := 25, descriptorIndex := 26, attributes := #[] }] 48 2 #[] #[{ accessFlags := 24, nameIndex := 84, descriptorIndex := 22, attributes := #[] }, { accessFlags := 26, nameIndex := 87, descriptorIndex := 22, attributes := #[] }, { accessFlags := 2, nameIndex := 13, descriptorIndex := 14, attributes := #[] }, { accessFlags := 2, nameIndex := 17, descriptorIndex := 18, attributes := #[] }, { accessFlags := 2, nameIndex := 21, descriptorIndex := 22, attributes := #[] }])
  fields := #[{ name := "MAX_DEPTH", type := .int, accessFlags := 24, slot := 0, constantValue := 0 }, { name := "IN_OBJECT", type := .int, accessFlags := 26, slot := 1, constantValue := 0 }, { name := "keys", type := (.array (.object "java/lang/String")), accessFlags := 2, slot := 0, constantValue := 0 }, { name := "indexes", type := (.array .int), accessFlags := 2, slot := 1, constantValue := 0 }, { name := "depth", type := .int, accessFlags := 2, slot := 2, constantValue := 0 }]
  methods := #[k8m0, k8m1, k8m2, k8m3, k8m4, k8m5, k8m6, k8m7]
  instanceTypes := #[(.array (.object "java/lang/String")), (.array .int), .int]
  staticTypes := #[.int, .int]
  resolved := Array.replicate 102 none
  statics := none }

def pool9 : Array CpInfo := pool [(1, .class_ 2), (0, u "java/lang/Appendable"), (0, .class_ 4), (0, u "java/lang/Object")] 9

/-- java/lang/Appendable -/
def k9 : Class := { plain "java/lang/Appendable" (some 0) with
  accessFlags := 1537
  interfaces := #[]
  cf := some (fileOf pool9 1 #[] #[] 1537 3 #[] #[])
  fields := #[]
  methods := #[]
  instanceTypes := #[]
  staticTypes := #[]
  resolved := Array.replicate 14 none
  statics := none }

def pool10 : Array CpInfo := pool [(1, .class_ 2), (0, u "java/lang/String"), (0, .methodref 4 5), (0, .class_ 6), (0, .nameAndType 7 8), (0, u "java/lang/Object"), (0, u "<init>"), (0, u "()V"), (1, .class_ 12), (1, u "java/lang/AbstractStringBuilder"), (0, u "EMPTYVALUE"), (0, u "[B"), (0, .fieldref 10 16), (0, .nameAndType 17 14), (0, u "value"), (0, .fieldref 1 19), (0, .nameAndType 20 21), (0, u "COMPACT_STRINGS"), (0, u "Z"), (0, .fieldref 10 23), (0, .nameAndType 24 25), (0, u "coder"), (0, u "B"), (8, u "length"), (0, u "()I"), (0, .class_ 37), (0, u "java/lang/Integer"), (7, u "append"), (2, .class_ 49), (0, u "java/lang/CharSequence"), (25, u "maybeLatin1"), (3, .fieldref 10 80), (0, .nameAndType 81 82), (0, u "count"), (0, u "I"), (0, .methodref 10 84), (0, .nameAndType 85 86), (0, u "isLatin1"), (0, u "()Z"), (1, .class_ 90), (1, u "java/lang/StringLatin1"), (9, .methodref 10 101), (0, .nameAndType 102 103), (0, u "ensureCapacityInternal"), (0, u "(I)V"), (3, u "(I)I"), (80, u "getChars"), (2, .methodref 88 192), (0, .nameAndType 193 194), (0, u "canEncode"), (0, u "(C)Z"), (50, .methodref 36 246), (0, .nameAndType 247 107), (0, u "stringSize"), (0, .methodref 36 249), (0, .nameAndType 188 250), (0, u "(II[B)I"), (41, u "(C)Ljava/lang/AbstractStringBuilder;"), (110, u "()[B"), (40, .class_ 445), (0, u "java/lang/Appendable"), (65, u "(I)Ljava/lang/AbstractStringBuilder;"), (40, u "getValue")] 56

def k10m0 : Method := { name := "<init>", desc := "()V", sig := { parameters := [], returnType := none }, accessFlags := 0, code := none }
def k10c1 : Code := { maxStack := 2, maxLocals := 2, code := jdk_68_method_2_code, exceptionTable := #[], attributes := #[] }
def k10m1 : Method := { name := "<init>", desc := "(I)V", sig := { parameters := [.int], returnType := none }, accessFlags := 0, code := some k10c1 }
def k10c2 : Code := { maxStack := 1, maxLocals := 1, code := jdk_68_method_6_code, exceptionTable := #[], attributes := #[] }
def k10m2 : Method := { name := "length", desc := "()I", sig := { parameters := [], returnType := some .int }, accessFlags := 1, code := some k10c2 }
def k10c3 : Code := { maxStack := 4, maxLocals := 3, code := jdk_68_method_9_code, exceptionTable := #[], attributes := #[] }
def k10m3 : Method := { name := "ensureCapacityInternal", desc := "(I)V", sig := { parameters := [.int], returnType := none }, accessFlags := 2, code := some k10c3 }
def k10c4 : Code := { maxStack := 5, maxLocals := 2, code := jdk_68_method_31_code, exceptionTable := #[], attributes := #[] }
def k10m4 : Method := { name := "append", desc := "(C)Ljava/lang/AbstractStringBuilder;", sig := { parameters := [.char], returnType := some (.object "java/lang/AbstractStringBuilder") }, accessFlags := 1, code := some k10c4 }
def k10c5 : Code := { maxStack := 4, maxLocals := 4, code := jdk_68_method_32_code, exceptionTable := #[], attributes := #[] }
def k10m5 : Method := { name := "append", desc := "(I)Ljava/lang/AbstractStringBuilder;", sig := { parameters := [.int], returnType := some (.object "java/lang/AbstractStringBuilder") }, accessFlags := 1, code := some k10c5 }
def k10c6 : Code := { maxStack := 1, maxLocals := 1, code := jdk_68_method_64_code, exceptionTable := #[], attributes := #[] }
def k10m6 : Method := { name := "getValue", desc := "()[B", sig := { parameters := [], returnType := some (.array .byte) }, accessFlags := 16, code := some k10c6 }
def k10c7 : Code := { maxStack := 1, maxLocals := 1, code := jdk_68_method_68_code, exceptionTable := #[], attributes := #[] }
def k10m7 : Method := { name := "isLatin1", desc := "()Z", sig := { parameters := [], returnType := some .boolean }, accessFlags := 16, code := some k10c7 }
/-- java/lang/AbstractStringBuilder -/
def k10 : Class := { plain "java/lang/AbstractStringBuilder" (some 0) with
  accessFlags := 1056
  interfaces := #[9, 4]
  cf := some (fileOf pool10 10 #[] #[{ accessFlags := 0, nameIndex := 7, descriptorIndex := 8, attributes := #[] }, { accessFlags := 0, nameIndex := 7, descriptorIndex := 103, attributes := #[] }, { accessFlags := 1, nameIndex := 34, descriptorIndex := 35, attributes := #[] }, { accessFlags := 2, nameIndex := 102, descriptorIndex := 103, attributes := #[] }, { accessFlags := 1, nameIndex := 45, descriptorIndex := 292, attributes := #[] }, { accessFlags := 1, nameIndex := 45, descriptorIndex := 511, attributes := #[] }, { accessFlags := 16, nameIndex := 552, descriptorIndex := 403, attributes := #[] }, { accessFlags := 16, nameIndex := 85, descriptorIndex := 86, attributes := #[] }] 1056 4 #[444, 48] #[{ accessFlags := 0, nameIndex := 17, descriptorIndex := 14, attributes := #[] }, { accessFlags := 0, nameIndex := 24, descriptorIndex := 25, attributes := #[] }, { accessFlags := 0, nameIndex := 75, descriptorIndex := 21, attributes := #[] }, { accessFlags := 0, nameIndex := 81, descriptorIndex := 82, attributes := #[] }, { accessFlags := 26, nameIndex := 13, descriptorIndex := 14, attributes := #[] }])
  fields := #[{ name := "value", type := (.array .byte), accessFlags := 0, slot := 0, constantValue := 0 }, { name := "coder", type := .byte, accessFlags := 0, slot := 1, constantValue := 0 }, { name := "maybeLatin1", type := .boolean, accessFlags := 0, slot := 2, constantValue := 0 }, { name := "count", type := .int, accessFlags := 0, slot := 3, constantValue := 0 }, { name := "EMPTYVALUE", type := (.array .byte), accessFlags := 26, slot := 0, constantValue := 0 }]
  methods := #[k10m0, k10m1, k10m2, k10m3, k10m4, k10m5, k10m6, k10m7]
  instanceTypes := #[(.array .byte), .byte, .boolean, .int]
  staticTypes := #[(.array .byte)]
  resolved := Array.replicate 609 none
  statics := none }

def pool11 : Array CpInfo := pool [(1, .methodref 2 3), (0, .class_ 4), (0, .nameAndType 5 6), (0, u "java/lang/AbstractStringBuilder"), (0, u "<init>"), (0, u "(I)V"), (11, .class_ 20), (1, u "java/lang/String"), (3, .class_ 26), (1, u "java/lang/StringBuilder"), (0, u "append"), (22, .methodref 2 51), (0, .nameAndType 27 52), (0, u "(C)Ljava/lang/AbstractStringBuilder;"), (0, .methodref 2 54), (0, .nameAndType 27 55), (0, u "(I)Ljava/lang/AbstractStringBuilder;"), (81, .methodref 18 138), (0, .nameAndType 5 139), (0, u "(Ljava/lang/StringBuilder;)V"), (5, u "()V"), (10, u "()I"), (111, u "(I)Ljava/lang/StringBuilder;"), (17, u "(C)Ljava/lang/StringBuilder;"), (56, .methodref 2 344), (0, .nameAndType 345 156), (0, u "length"), (3, .class_ 350), (0, u "java/lang/Appendable"), (0, .class_ 352), (0, u "java/io/Serializable"), (0, .class_ 354), (0, u "java/lang/Comparable"), (0, .class_ 356), (0, u "java/lang/CharSequence"), (0, u "serialVersionUID"), (0, u "J"), (40, u "toString"), (0, u "()Ljava/lang/String;")] 21

def k11c0 : Code := { maxStack := 2, maxLocals := 1, code := jdk_67_method_1_code, exceptionTable := #[], attributes := #[] }
def k11m0 : Method := { name := "<init>", desc := "()V", sig := { parameters := [], returnType := none }, accessFlags := 1, code := some k11c0 }
def k11c1 : Code := { maxStack := 2, maxLocals := 2, code := jdk_67_method_14_code, exceptionTable := #[], attributes := #[] }
def k11m1 : Method := { name := "append", desc := "(C)Ljava/lang/StringBuilder;", sig := { parameters := [.char], returnType := some (.object "java/lang/StringBuilder") }, accessFlags := 1, code := some k11c1 }
def k11c2 : Code := { maxStack := 2, maxLocals := 2, code := jdk_67_method_15_code, exceptionTable := #[], attributes := #[] }
def k11m2 : Method := { name := "append", desc := "(I)Ljava/lang/StringBuilder;", sig := { parameters := [.int], returnType := some (.object "java/lang/StringBuilder") }, accessFlags := 1, code := some k11c2 }
def k11c3 : Code := { maxStack := 3, maxLocals := 1, code := jdk_67_method_42_code, exceptionTable := #[], attributes := #[] }
def k11m3 : Method := { name := "toString", desc := "()Ljava/lang/String;", sig := { parameters := [], returnType := some (.object "java/lang/String") }, accessFlags := 1, code := some k11c3 }
def k11c4 : Code := { maxStack := 1, maxLocals := 1, code := jdk_67_method_93_code, exceptionTable := #[], attributes := #[] }
def k11m4 : Method := { name := "length", desc := "()I", sig := { parameters := [], returnType := some .int }, accessFlags := 4161, code := some k11c4 }
/-- java/lang/StringBuilder -/
def k11 : Class := { plain "java/lang/StringBuilder" (some 10) with
  accessFlags := 49
  interfaces := #[9, 2, 3, 4]
  cf := some (fileOf pool11 24 #[] #[{ accessFlags := 1, nameIndex := 5, descriptorIndex := 145, attributes := #[] }, { accessFlags := 1, nameIndex := 27, descriptorIndex := 286, attributes := #[] }, { accessFlags := 1, nameIndex := 27, descriptorIndex := 268, attributes := #[] }, { accessFlags := 1, nameIndex := 399, descriptorIndex := 400, attributes := #[] }, { accessFlags := 4161, nameIndex := 345, descriptorIndex := 156, attributes := #[] }] 49 2 #[349, 351, 353, 355] #[{ accessFlags := 24, nameIndex := 357, descriptorIndex := 358, attributes := #[] }])
  fields := #[{ name := "serialVersionUID", type := .long, accessFlags := 24, slot := 0, constantValue := 0 }]
  methods := #[k11m0, k11m1, k11m2, k11m3, k11m4]
  instanceTypes := #[(.array .byte), .byte, .boolean, .int]
  staticTypes := #[.long]
  resolved := Array.replicate 422 none
  statics := none }

def pool12 : Array CpInfo := pool [(2, .class_ 4), (1, u "java/lang/Object"), (0, u "<init>"), (0, u "()V"), (7, .class_ 16), (1, u "java/util/Arrays"), (57, .class_ 76), (1, u "java/util/Arrays$NaturalOrder"), (36, .class_ 115), (1, u "java/util/Arrays$LegacyMergeSort"), (1, u "Z"), (21, u "copyOfRange"), (10, .methodref 151 152), (0, .class_ 153), (0, .nameAndType 154 155), (0, u "java/lang/System"), (0, u "arraycopy"), (0, u "(Ljava/lang/Object;ILjava/lang/Object;II)V"), (148, .methodref 305 306), (0, .class_ 307), (0, .nameAndType 308 309), (0, u "java/lang/Math"), (0, u "min"), (0, u "(II)I"), (29, .methodref 14 340), (0, .nameAndType 341 342), (0, u "copyOfRangeByte"), (0, u "([BII)[B"), (0, .methodref 14 344), (0, .nameAndType 345 346), (0, u "checkLength"), (0, u "(II)V"), (28, .class_ 376), (0, u "java/util/Arrays$ArrayList"), (68, u "$assertionsDisabled"), (269, u "MIN_ARRAY_SORT_GRAN"), (0, u "I"), (2, u "INSERTIONSORT_THRESHOLD"), (255, .class_ 976), (0, u "java/util/Arrays$ArrayItr")] 52

def k12m0 : Method := { name := "<init>", desc := "()V", sig := { parameters := [], returnType := none }, accessFlags := 2, code := none }
def k12c1 : Code := { maxStack := 4, maxLocals := 2, code := jdk_65_method_131_code, exceptionTable := #[], attributes := #[] }
def k12m1 : Method := { name := "checkLength", desc := "(II)V", sig := { parameters := [.int, .int], returnType := none }, accessFlags := 10, code := some k12c1 }
def k12c2 : Code := { maxStack := 3, maxLocals := 3, code := jdk_65_method_132_code, exceptionTable := #[], attributes := #[] }
def k12m2 : Method := { name := "copyOfRange", desc := "([BII)[B", sig := { parameters := [(.array .byte), .int, .int], returnType := some (.array .byte) }, accessFlags := 9, code := some k12c2 }
def k12c3 : Code := { maxStack := 6, maxLocals := 5, code := jdk_65_method_133_code, exceptionTable := #[], attributes := #[] }
def k12m3 : Method := { name := "copyOfRangeByte", desc := "([BII)[B", sig := { parameters := [(.array .byte), .int, .int], returnType := some (.array .byte) }, accessFlags := 10, code := some k12c3 }
/-- java/util/Arrays -/
def k12 : Class := { plain "java/util/Arrays" (some 0) with
  accessFlags := 49
  interfaces := #[]
  cf := some (fileOf pool12 14 #[.nestMembers #[975, 375, 113, 74]] #[{ accessFlags := 2, nameIndex := 5, descriptorIndex := 6, attributes := #[] }, { accessFlags := 10, nameIndex := 345, descriptorIndex := 346, attributes := #[] }, { accessFlags := 9, nameIndex := 139, descriptorIndex := 342, attributes := #[] }, { accessFlags := 10, nameIndex := 341, descriptorIndex := 342, attributes := #[] }] 49 2 #[] #[{ accessFlags := 26, nameIndex := 715, descriptorIndex := 716, attributes := #[] }, { accessFlags := 26, nameIndex := 719, descriptorIndex := 716, attributes := #[] }, { accessFlags := 4120, nameIndex := 445, descriptorIndex := 117, attributes := #[] }])
  fields := #[{ name := "MIN_ARRAY_SORT_GRAN", type := .int, accessFlags := 26, slot := 0, constantValue := 0 }, { name := "INSERTIONSORT_THRESHOLD", type := .int, accessFlags := 26, slot := 1, constantValue := 0 }, { name := "$assertionsDisabled", type := .boolean, accessFlags := 4120, slot := 2, constantValue := 0 }]
  methods := #[k12m0, k12m1, k12m2, k12m3]
  instanceTypes := #[]
  staticTypes := #[.int, .int, .boolean]
  resolved := Array.replicate 1029 none
  statics := none }

def pool13 : Array CpInfo := pool [(1, .class_ 2), (0, u "java/lang/Math"), (1, .class_ 6), (1, u "java/lang/Object"), (0, u "<init>"), (0, u "()V"), (89, .class_ 100), (1, u "java/lang/Math$RandomNumberGeneratorHolder"), (71, u "negativeZeroFloatBits"), (0, u "J"), (2, u "negativeZeroDoubleBits"), (24, u "min"), (43, u "$assertionsDisabled"), (0, u "Z"), (88, u "(II)I"), (2, u "twoToTheDoubleScaleDown"), (0, u "D"), (4, u "twoToTheDoubleScaleUp"), (9, u "E"), (3, u "PI"), (2, u "TAU"), (2, u "DEGREES_TO_RADIANS"), (0, u "RADIANS_TO_DEGREES")] 94

def k13m0 : Method := { name := "<init>", desc := "()V", sig := { parameters := [], returnType := none }, accessFlags := 2, code := none }
def k13c1 : Code := { maxStack := 2, maxLocals := 2, code := jdk_29_method_69_code, exceptionTable := #[], attributes := #[] }
def k13m1 : Method := { name := "min", desc := "(II)I", sig := { parameters := [.int, .int], returnType := some .int }, accessFlags := 9, code := some k13c1 }
/-- java/lang/Math -/
def k13 : Class := { plain "java/lang/Math" (some 0) with
  accessFlags := 49
  interfaces := #[]
  cf := some (fileOf pool13 1 #[.nestMembers #[98]] #[{ accessFlags := 2, nameIndex := 7, descriptorIndex := 8, attributes := #[] }, { accessFlags := 9, nameIndex := 201, descriptorIndex := 335, attributes := #[] }] 49 4 #[] #[{ accessFlags := 25, nameIndex := 354, descriptorIndex := 339, attributes := #[] }, { accessFlags := 25, nameIndex := 358, descriptorIndex := 339, attributes := #[] }, { accessFlags := 25, nameIndex := 361, descriptorIndex := 339, attributes := #[] }, { accessFlags := 26, nameIndex := 364, descriptorIndex := 339, attributes := #[] }, { accessFlags := 26, nameIndex := 365, descriptorIndex := 339, attributes := #[] }, { accessFlags := 26, nameIndex := 172, descriptorIndex := 173, attributes := #[] }, { accessFlags := 26, nameIndex := 176, descriptorIndex := 173, attributes := #[] }, { accessFlags := 8, nameIndex := 344, descriptorIndex := 339, attributes := #[] }, { accessFlags := 8, nameIndex := 338, descriptorIndex := 339, attributes := #[] }, { accessFlags := 4120, nameIndex := 245, descriptorIndex := 246, attributes := #[] }])
  fields := #[{ name := "E", type := .double, accessFlags := 25, slot := 0, constantValue := 0 }, { name := "PI", type := .double, accessFlags := 25, slot := 1, constantValue := 0 }, { name := "TAU", type := .double, accessFlags := 25, slot := 2, constantValue := 0 }, { name := "DEGREES_TO_RADIANS", type := .double, accessFlags := 26, slot := 3, constantValue := 0 }, { name := "RADIANS_TO_DEGREES", type := .double, accessFlags := 26, slot := 4, constantValue := 0 }, { name := "negativeZeroFloatBits", type := .long, accessFlags := 26, slot := 5, constantValue := 0 }, { name := "negativeZeroDoubleBits", type := .long, accessFlags := 26, slot := 6, constantValue := 0 }, { name := "twoToTheDoubleScaleUp", type := .double, accessFlags := 8, slot := 7, constantValue := 0 }, { name := "twoToTheDoubleScaleDown", type := .double, accessFlags := 8, slot := 8, constantValue := 0 }, { name := "$assertionsDisabled", type := .boolean, accessFlags := 4120, slot := 9, constantValue := 0 }]
  methods := #[k13m0, k13m1]
  instanceTypes := #[]
  staticTypes := #[.double, .double, .double, .double, .double, .long, .long, .double, .double, .boolean]
  resolved := Array.replicate 460 none
  statics := none }

def pool14 : Array CpInfo := pool [(2, .class_ 4), (1, u "java/lang/Object"), (0, u "<init>"), (0, u "()V"), (1, .class_ 10), (1, u "java/lang/System"), (0, u "allowSecurityManager"), (0, u "I"), (16, u "cons"), (0, u "Ljava/io/Console;"), (77, .class_ 110), (1, u "java/lang/System$CallersHolder"), (43, u "initialErrStream"), (0, u "Ljava/io/PrintStream;"), (19, u "security"), (0, u "Ljava/lang/SecurityManager;"), (31, .class_ 209), (0, u "java/lang/System$1"), (7, u "props"), (0, u "Ljava/util/Properties;"), (2, u "lineSeparator"), (0, u "Ljava/lang/String;"), (96, .class_ 321), (1, u "java/lang/System$LoggerFinder"), (5, .class_ 328), (0, u "java/lang/System$Logger"), (67, u "err"), (2, u "out"), (91, u "notSupportedJnuEncoding"), (15, u "in"), (17, u "initialIn"), (0, u "Ljava/io/InputStream;"), (35, u "bootLayer"), (0, u "Ljava/lang/ModuleLayer;"), (99, .class_ 664), (0, u "java/lang/System$2"), (9, u "NEVER"), (2, u "MAYBE"), (49, u "arraycopy"), (0, u "(Ljava/lang/Object;ILjava/lang/Object;II)V"), (72, .class_ 802), (0, u "java/lang/System$Logger$Level")] 31

def k14m0 : Method := { name := "<init>", desc := "()V", sig := { parameters := [], returnType := none }, accessFlags := 2, code := none }
def k14m1 : Method := { name := "arraycopy", desc := "(Ljava/lang/Object;ILjava/lang/Object;II)V", sig := { parameters := [(.object "java/lang/Object"), .int, (.object "java/lang/Object"), .int, .int], returnType := none }, accessFlags := 265, code := none }
/-- java/lang/System -/
def k14 : Class := { plain "java/lang/System" (some 0) with
  accessFlags := 49
  interfaces := #[]
  cf := some (fileOf pool14 8 #[.nestMembers #[319, 327, 801, 108, 663, 208]] #[{ accessFlags := 2, nameIndex := 5, descriptorIndex := 6, attributes := #[] }, { accessFlags := 265, nameIndex := 727, descriptorIndex := 728, attributes := #[] }] 49 2 #[] #[{ accessFlags := 25, nameIndex := 507, descriptorIndex := 526, attributes := #[] }, { accessFlags := 25, nameIndex := 399, descriptorIndex := 155, attributes := #[] }, { accessFlags := 25, nameIndex := 396, descriptorIndex := 155, attributes := #[] }, { accessFlags := 10, nameIndex := 525, descriptorIndex := 526, attributes := #[] }, { accessFlags := 26, nameIndex := 674, descriptorIndex := 12, attributes := #[] }, { accessFlags := 26, nameIndex := 677, descriptorIndex := 12, attributes := #[] }, { accessFlags := 10, nameIndex := 11, descriptorIndex := 12, attributes := #[] }, { accessFlags := 74, nameIndex := 175, descriptorIndex := 176, attributes := #[] }, { accessFlags := 10, nameIndex := 491, descriptorIndex := 222, attributes := #[] }, { accessFlags := 74, nameIndex := 29, descriptorIndex := 30, attributes := #[] }, { accessFlags := 74, nameIndex := 154, descriptorIndex := 155, attributes := #[] }, { accessFlags := 10, nameIndex := 217, descriptorIndex := 218, attributes := #[] }, { accessFlags := 10, nameIndex := 221, descriptorIndex := 222, attributes := #[] }, { accessFlags := 8, nameIndex := 562, descriptorIndex := 563, attributes := #[] }])
  fields := #[{ name := "in", type := (.object "java/io/InputStream"), accessFlags := 25, slot := 0, constantValue := 0 }, { name := "out", type := (.object "java/io/PrintStream"), accessFlags := 25, slot := 1, constantValue := 0 }, { name := "err", type := (.object "java/io/PrintStream"), accessFlags := 25, slot := 2, constantValue := 0 }, { name := "initialIn", type := (.object "java/io/InputStream"), accessFlags := 10, slot := 3, constantValue := 0 }, { name := "NEVER", type := .int, accessFlags := 26, slot := 4, constantValue := 0 }, { name := "MAYBE", type := .int, accessFlags := 26, slot := 5, constantValue := 0 }, { name := "allowSecurityManager", type := .int, accessFlags := 10, slot := 6, constantValue := 0 }, { name := "security", type := (.object "java/lang/SecurityManager"), accessFlags := 74, slot := 7, constantValue := 0 }, { name := "notSupportedJnuEncoding", type := (.object "java/lang/String"), accessFlags := 10, slot := 8, constantValue := 0 }, { name := "cons", type := (.object "java/io/Console"), accessFlags := 74, slot := 9, constantValue := 0 }, { name := "initialErrStream", type := (.object "java/io/PrintStream"), accessFlags := 74, slot := 10, constantValue := 0 }, { name := "props", type := (.object "java/util/Properties"), accessFlags := 10, slot := 11, constantValue := 0 }, { name := "lineSeparator", type := (.object "java/lang/String"), accessFlags := 10, slot := 12, constantValue := 0 }, { name := "bootLayer", type := (.object "java/lang/ModuleLayer"), accessFlags := 8, slot := 13, constantValue := 0 }]
  methods := #[k14m0, k14m1]
  instanceTypes := #[]
  staticTypes := #[(.object "java/io/InputStream"), (.object "java/io/PrintStream"), (.object "java/io/PrintStream"), (.object "java/io/InputStream"), .int, .int, .int, (.object "java/lang/SecurityManager"), (.object "java/lang/String"), (.object "java/io/Console"), (.object "java/io/PrintStream"), (.object "java/util/Properties"), (.object "java/lang/String"), (.object "java/lang/ModuleLayer")]
  resolved := Array.replicate 834 none
  statics := none }

def pool15 : Array CpInfo := pool [(4, .class_ 6), (1, u "java/lang/Object"), (0, u "<init>"), (0, u "()V"), (5, .class_ 16), (1, u "java/lang/StringLatin1"), (73, u "canEncode"), (14, u "(C)Z"), (15, u "$assertionsDisabled"), (0, u "Z"), (98, .class_ 223), (1, u "java/lang/StringLatin1$LinesSpliterator"), (57, u "equals"), (0, u "([B[B)Z"), (107, .class_ 391), (0, u "java/lang/StringLatin1$CharsSpliterator")] 3

def k15m0 : Method := { name := "<init>", desc := "()V", sig := { parameters := [], returnType := none }, accessFlags := 0, code := none }
def k15c1 : Code := { maxStack := 2, maxLocals := 1, code := jdk_43_method_3_code, exceptionTable := #[], attributes := #[] }
def k15m1 : Method := { name := "canEncode", desc := "(C)Z", sig := { parameters := [.char], returnType := some .boolean }, accessFlags := 9, code := some k15c1 }
def k15c2 : Code := { maxStack := 3, maxLocals := 3, code := jdk_43_method_13_code, exceptionTable := #[], attributes := #[] }
def k15m2 : Method := { name := "equals", desc := "([B[B)Z", sig := { parameters := [(.array .byte), (.array .byte)], returnType := some .boolean }, accessFlags := 9, code := some k15c2 }
/-- java/lang/StringLatin1 -/
def k15 : Class := { plain "java/lang/StringLatin1" (some 0) with
  accessFlags := 48
  interfaces := #[]
  cf := some (fileOf pool15 14 #[.nestMembers #[390, 221]] #[{ accessFlags := 0, nameIndex := 7, descriptorIndex := 8, attributes := #[] }, { accessFlags := 9, nameIndex := 90, descriptorIndex := 105, attributes := #[] }, { accessFlags := 9, nameIndex := 281, descriptorIndex := 282, attributes := #[] }] 48 4 #[] #[{ accessFlags := 4120, nameIndex := 121, descriptorIndex := 122, attributes := #[] }])
  fields := #[{ name := "$assertionsDisabled", type := .boolean, accessFlags := 4120, slot := 0, constantValue := 0 }]
  methods := #[k15m0, k15m1, k15m2]
  instanceTypes := #[]
  staticTypes := #[.boolean]
  resolved := Array.replicate 395 none
  statics := none }

def pool16 : Array CpInfo := pool [(6, .class_ 8), (1, u "java/lang/Object"), (0, u "<init>"), (0, u "()V"), (1, .class_ 14), (1, u "java/lang/StringUTF16"), (31, u "$assertionsDisabled"), (0, u "Z"), (13, u "HI_BYTE_SHIFT"), (0, u "I"), (2, u "LO_BYTE_SHIFT"), (49, .methodref 12 116), (0, .nameAndType 117 118), (0, u "compress"), (0, u "([CI[BII)I"), (3, u "([CII)[B"), (138, u "coderFromArrayLen"), (0, u "([BI)B"), (106, .class_ 371), (1, u "java/lang/StringUTF16$LinesSpliterator"), (58, u "MAX_LENGTH"), (196, .class_ 628), (0, u "java/lang/StringUTF16$CodePointsSpliterator"), (0, .class_ 630), (0, u "java/lang/StringUTF16$CharsSpliterator")] 4

def k16m0 : Method := { name := "<init>", desc := "()V", sig := { parameters := [], returnType := none }, accessFlags := 0, code := none }
def k16c1 : Code := { maxStack := 2, maxLocals := 2, code := jdk_52_method_15_code, exceptionTable := #[], attributes := #[] }
def k16m1 : Method := { name := "coderFromArrayLen", desc := "([BI)B", sig := { parameters := [(.array .byte), .int], returnType := some .byte }, accessFlags := 8, code := some k16c1 }
def k16c2 : Code := { maxStack := 5, maxLocals := 6, code := jdk_52_method_16_code, exceptionTable := #[], attributes := #[] }
def k16m2 : Method := { name := "compress", desc := "([CII)[B", sig := { parameters := [(.array .char), .int, .int], returnType := some (.array .byte) }, accessFlags := 9, code := some k16c2 }
def k16c3 : Code := { maxStack := 3, maxLocals := 7, code := jdk_52_method_21_code, exceptionTable := #[], attributes := #[] }
def k16m3 : Method := { name := "compress", desc := "([CI[BII)I", sig := { parameters := [(.array .char), .int, (.array .byte), .int, .int], returnType := some .int }, accessFlags := 9, code := some k16c3 }
/-- java/lang/StringUTF16 -/
def k16 : Class := { plain "java/lang/StringUTF16" (some 0) with
  accessFlags := 48
  interfaces := #[]
  cf := some (fileOf pool16 12 #[.nestMembers #[627, 629, 369]] #[{ accessFlags := 0, nameIndex := 9, descriptorIndex := 10, attributes := #[] }, { accessFlags := 8, nameIndex := 261, descriptorIndex := 262, attributes := #[] }, { accessFlags := 9, nameIndex := 117, descriptorIndex := 122, attributes := #[] }, { accessFlags := 9, nameIndex := 117, descriptorIndex := 118, attributes := #[] }] 48 6 #[] #[{ accessFlags := 26, nameIndex := 61, descriptorIndex := 62, attributes := #[] }, { accessFlags := 26, nameIndex := 65, descriptorIndex := 62, attributes := #[] }, { accessFlags := 24, nameIndex := 430, descriptorIndex := 62, attributes := #[] }, { accessFlags := 4120, nameIndex := 46, descriptorIndex := 47, attributes := #[] }])
  fields := #[{ name := "HI_BYTE_SHIFT", type := .int, accessFlags := 26, slot := 0, constantValue := 0 }, { name := "LO_BYTE_SHIFT", type := .int, accessFlags := 26, slot := 1, constantValue := 0 }, { name := "MAX_LENGTH", type := .int, accessFlags := 24, slot := 2, constantValue := 0 }, { name := "$assertionsDisabled", type := .boolean, accessFlags := 4120, slot := 3, constantValue := 0 }]
  methods := #[k16m0, k16m1, k16m2, k16m3]
  instanceTypes := #[]
  staticTypes := #[.int, .int, .int, .boolean]
  resolved := Array.replicate 635 none
  statics := none }

def pool17 : Array CpInfo := pool [(2, .class_ 4), (1, u "java/lang/Object"), (0, u "<init>"), (0, u "()V"), (1, .class_ 10), (1, u "java/lang/Number"), (2, .class_ 14), (0, u "java/io/Serializable"), (0, u "serialVersionUID"), (0, u "J")] 20

def k17m0 : Method := { name := "<init>", desc := "()V", sig := { parameters := [], returnType := none }, accessFlags := 1, code := none }
/-- java/lang/Number -/
def k17 : Class := { plain "java/lang/Number" (some 0) with
  accessFlags := 1057
  interfaces := #[2]
  cf := some (fileOf pool17 8 #[] #[{ accessFlags := 1, nameIndex := 5, descriptorIndex := 6, attributes := #[] }] 1057 2 #[13] #[{ accessFlags := 26, nameIndex := 15, descriptorIndex := 16, attributes := #[] }])
  fields := #[{ name := "serialVersionUID", type := .long, accessFlags := 26, slot := 0, constantValue := 0 }]
  methods := #[k17m0]
  instanceTypes := #[]
  staticTypes := #[.long]
  resolved := Array.replicate 37 none
  statics := none }

def pool18 : Array CpInfo := pool [(1, .class_ 2), (0, u "java/lang/Integer"), (16, u "digits"), (0, u "[C"), (33, u "(I)I"), (19, u "stringSize"), (2, u "getChars"), (0, u "(II[B)I"), (4, .fieldref 1 84), (0, .nameAndType 85 86), (0, u "DigitOnes"), (0, u "[B"), (2, u "DigitTens"), (99, .class_ 190), (0, u "java/lang/Integer$IntegerCache"), (3, u "I"), (8, .class_ 204), (0, u "java/lang/Number"), (2, u "value"), (94, u "TYPE"), (0, u "Ljava/lang/Class;"), (0, .class_ 305), (0, u "java/lang/Comparable"), (0, .class_ 307), (0, u "java/lang/constant/Constable"), (0, .class_ 309), (0, u "java/lang/constant/ConstantDesc"), (0, u "MIN_VALUE"), (1, u "MAX_VALUE"), (3, u "SIZE"), (1, u "BYTES"), (1, u "serialVersionUID"), (0, u "J")] 131

def k18c0 : Code := { maxStack := 4, maxLocals := 7, code := jdk_33_method_12_code, exceptionTable := #[], attributes := #[] }
def k18m0 : Method := { name := "getChars", desc := "(II[B)I", sig := { parameters := [.int, .int, (.array .byte)], returnType := some .int }, accessFlags := 8, code := some k18c0 }
def k18c1 : Code := { maxStack := 2, maxLocals := 4, code := jdk_33_method_13_code, exceptionTable := #[], attributes := #[] }
def k18m1 : Method := { name := "stringSize", desc := "(I)I", sig := { parameters := [.int], returnType := some .int }, accessFlags := 8, code := some k18c1 }
/-- java/lang/Integer -/
def k18 : Class := { plain "java/lang/Integer" (some 17) with
  accessFlags := 49
  interfaces := #[3, 5, 6]
  cf := some (fileOf pool18 1 #[.nestMembers #[189]] #[{ accessFlags := 8, nameIndex := 77, descriptorIndex := 78, attributes := #[] }, { accessFlags := 8, nameIndex := 74, descriptorIndex := 54, attributes := #[] }] 49 203 #[304, 306, 308] #[{ accessFlags := 25, nameIndex := 310, descriptorIndex := 194, attributes := #[] }, { accessFlags := 25, nameIndex := 312, descriptorIndex := 194, attributes := #[] }, { accessFlags := 25, nameIndex := 302, descriptorIndex := 303, attributes := #[] }, { accessFlags := 24, nameIndex := 19, descriptorIndex := 20, attributes := #[] }, { accessFlags := 24, nameIndex := 89, descriptorIndex := 86, attributes := #[] }, { accessFlags := 24, nameIndex := 85, descriptorIndex := 86, attributes := #[] }, { accessFlags := 18, nameIndex := 207, descriptorIndex := 194, attributes := #[] }, { accessFlags := 25, nameIndex := 316, descriptorIndex := 194, attributes := #[] }, { accessFlags := 25, nameIndex := 318, descriptorIndex := 194, attributes := #[] }, { accessFlags := 26, nameIndex := 320, descriptorIndex := 321, attributes := #[] }])
  fields := #[{ name := "MIN_VALUE", type := .int, accessFlags := 25, slot := 0, constantValue := 0 }, { name := "MAX_VALUE", type := .int, accessFlags := 25, slot := 1, constantValue := 0 }, { name := "TYPE", type := (.object "java/lang/Class"), accessFlags := 25, slot := 2, constantValue := 0 }, { name := "digits", type := (.array .char), accessFlags := 24, slot := 3, constantValue := 0 }, { name := "DigitTens", type := (.array .byte), accessFlags := 24, slot := 4, constantValue := 0 }, { name := "DigitOnes", type := (.array .byte), accessFlags := 24, slot := 5, constantValue := 0 }, { name := "value", type := .int, accessFlags := 18, slot := 0, constantValue := 0 }, { name := "SIZE", type := .int, accessFlags := 25, slot := 6, constantValue := 0 }, { name := "BYTES", type := .int, accessFlags := 25, slot := 7, constantValue := 0 }, { name := "serialVersionUID", type := .long, accessFlags := 26, slot := 8, constantValue := 0 }]
  methods := #[k18m0, k18m1]
  instanceTypes := #[.int]
  staticTypes := #[.int, .int, (.object "java/lang/Class"), (.array .char), (.array .byte), (.array .byte), .int, .int, .long]
  resolved := Array.replicate 453 none
  statics := some 1 }

def pool19 : Array CpInfo := pool [(2, .class_ 4), (1, u "java/lang/Object"), (0, u "<init>"), (0, u "()V"), (17, .class_ 26), (1, u "jdk/internal/util/Preconditions"), (28, .class_ 56), (0, u "jdk/internal/util/Preconditions$4"), (57, .class_ 115), (0, u "jdk/internal/util/Preconditions$1"), (7, u "SIOOBE_FORMATTER"), (0, u "Ljava/util/function/BiFunction;"), (0, .class_ 126), (0, u "jdk/internal/util/Preconditions$2"), (3, u "AIOOBE_FORMATTER"), (0, .class_ 132), (0, u "jdk/internal/util/Preconditions$3"), (3, u "IOOBE_FORMATTER")] 57

def k19m0 : Method := { name := "<init>", desc := "()V", sig := { parameters := [], returnType := none }, accessFlags := 1, code := none }
/-- jdk/internal/util/Preconditions -/
def k19 : Class := { plain "jdk/internal/util/Preconditions" (some 0) with
  accessFlags := 33
  interfaces := #[]
  cf := some (fileOf pool19 24 #[.nestMembers #[55, 131, 125, 114]] #[{ accessFlags := 1, nameIndex := 5, descriptorIndex := 6, attributes := #[] }] 33 2 #[] #[{ accessFlags := 25, nameIndex := 123, descriptorIndex := 124, attributes := #[] }, { accessFlags := 25, nameIndex := 130, descriptorIndex := 124, attributes := #[] }, { accessFlags := 25, nameIndex := 136, descriptorIndex := 124, attributes := #[] }])
  fields := #[{ name := "SIOOBE_FORMATTER", type := (.object "java/util/function/BiFunction"), accessFlags := 25, slot := 0, constantValue := 0 }, { name := "AIOOBE_FORMATTER", type := (.object "java/util/function/BiFunction"), accessFlags := 25, slot := 1, constantValue := 0 }, { name := "IOOBE_FORMATTER", type := (.object "java/util/function/BiFunction"), accessFlags := 25, slot := 2, constantValue := 0 }]
  methods := #[k19m0]
  instanceTypes := #[]
  staticTypes := #[(.object "java/util/function/BiFunction"), (.object "java/util/function/BiFunction"), (.object "java/util/function/BiFunction")]
  resolved := Array.replicate 194 none
  statics := some 2 }

def pool20 : Array CpInfo := pool [(9, u "<init>"), (6, .class_ 18), (1, u "java/lang/Object"), (0, u "()V"), (1, .class_ 23), (1, u "jdk/internal/util/ArraysSupport"), (0, u "LOG2_ARRAY_LONG_INDEX_SCALE"), (0, u "I"), (2, u "U"), (0, u "Ljdk/internal/misc/Unsafe;"), (8, u "BIG_ENDIAN"), (0, u "Z"), (8, u "LOG2_BYTE_BIT_SIZE"), (4, u "LOG2_ARRAY_INT_INDEX_SCALE"), (54, u "JLA"), (0, u "Ljdk/internal/access/JavaLangAccess;"), (11, u "LOG2_ARRAY_BOOLEAN_INDEX_SCALE"), (9, u "LOG2_ARRAY_BYTE_INDEX_SCALE"), (5, u "LOG2_ARRAY_CHAR_INDEX_SCALE"), (5, u "LOG2_ARRAY_SHORT_INDEX_SCALE"), (18, u "LOG2_ARRAY_FLOAT_INDEX_SCALE"), (24, u "LOG2_ARRAY_DOUBLE_INDEX_SCALE"), (89, u "T_BOOLEAN"), (2, u "T_CHAR"), (1, u "T_FLOAT"), (1, u "T_DOUBLE"), (1, u "T_BYTE"), (1, u "T_SHORT"), (1, u "T_INT"), (1, u "T_LONG"), (1, u "SOFT_MAX_ARRAY_LENGTH")] 83

def k20m0 : Method := { name := "<init>", desc := "()V", sig := { parameters := [], returnType := none }, accessFlags := 2, code := none }
/-- jdk/internal/util/ArraysSupport -/
def k20 : Class := { plain "jdk/internal/util/ArraysSupport" (some 0) with
  accessFlags := 33
  interfaces := #[]
  cf := some (fileOf pool20 21 #[] #[{ accessFlags := 2, nameIndex := 9, descriptorIndex := 19, attributes := #[] }] 33 16 #[] #[{ accessFlags := 24, nameIndex := 28, descriptorIndex := 29, attributes := #[] }, { accessFlags := 26, nameIndex := 38, descriptorIndex := 39, attributes := #[] }, { accessFlags := 25, nameIndex := 121, descriptorIndex := 25, attributes := #[] }, { accessFlags := 25, nameIndex := 131, descriptorIndex := 25, attributes := #[] }, { accessFlags := 25, nameIndex := 137, descriptorIndex := 25, attributes := #[] }, { accessFlags := 25, nameIndex := 143, descriptorIndex := 25, attributes := #[] }, { accessFlags := 25, nameIndex := 53, descriptorIndex := 25, attributes := #[] }, { accessFlags := 25, nameIndex := 24, descriptorIndex := 25, attributes := #[] }, { accessFlags := 25, nameIndex := 162, descriptorIndex := 25, attributes := #[] }, { accessFlags := 25, nameIndex := 187, descriptorIndex := 25, attributes := #[] }, { accessFlags := 26, nameIndex := 48, descriptorIndex := 25, attributes := #[] }, { accessFlags := 25, nameIndex := 277, descriptorIndex := 25, attributes := #[] }, { accessFlags := 25, nameIndex := 280, descriptorIndex := 25, attributes := #[] }, { accessFlags := 25, nameIndex := 282, descriptorIndex := 25, attributes := #[] }, { accessFlags := 25, nameIndex := 284, descriptorIndex := 25, attributes := #[] }, { accessFlags := 25, nameIndex := 286, descriptorIndex := 25, attributes := #[] }, { accessFlags := 25, nameIndex := 288, descriptorIndex := 25, attributes := #[] }, { accessFlags := 25, nameIndex := 290, descriptorIndex := 25, attributes := #[] }, { accessFlags := 25, nameIndex := 292, descriptorIndex := 25, attributes := #[] }, { accessFlags := 26, nameIndex := 108, descriptorIndex := 109, attributes := #[] }, { accessFlags := 25, nameIndex := 294, descriptorIndex := 25, attributes := #[] }])
  fields := #[{ name := "U", type := (.object "jdk/internal/misc/Unsafe"), accessFlags := 24, slot := 0, constantValue := 0 }, { name := "BIG_ENDIAN", type := .boolean, accessFlags := 26, slot := 1, constantValue := 0 }, { name := "LOG2_ARRAY_BOOLEAN_INDEX_SCALE", type := .int, accessFlags := 25, slot := 2, constantValue := 0 }, { name := "LOG2_ARRAY_BYTE_INDEX_SCALE", type := .int, accessFlags := 25, slot := 3, constantValue := 0 }, { name := "LOG2_ARRAY_CHAR_INDEX_SCALE", type := .int, accessFlags := 25, slot := 4, constantValue := 0 }, { name := "LOG2_ARRAY_SHORT_INDEX_SCALE", type := .int, accessFlags := 25, slot := 5, constantValue := 0 }, { name := "LOG2_ARRAY_INT_INDEX_SCALE", type := .int, accessFlags := 25, slot := 6, constantValue := 0 }, { name := "LOG2_ARRAY_LONG_INDEX_SCALE", type := .int, accessFlags := 25, slot := 7, constantValue := 0 }, { name := "LOG2_ARRAY_FLOAT_INDEX_SCALE", type := .int, accessFlags := 25, slot := 8, constantValue := 0 }, { name := "LOG2_ARRAY_DOUBLE_INDEX_SCALE", type := .int, accessFlags := 25, slot := 9, constantValue := 0 }, { name := "LOG2_BYTE_BIT_SIZE", type := .int, accessFlags := 26, slot := 10, constantValue := 0 }, { name := "T_BOOLEAN", type := .int, accessFlags := 25, slot := 11, constantValue := 0 }, { name := "T_CHAR", type := .int, accessFlags := 25, slot := 12, constantValue := 0 }, { name := "T_FLOAT", type := .int, accessFlags := 25, slot := 13, constantValue := 0 }, { name := "T_DOUBLE", type := .int, accessFlags := 25, slot := 14, constantValue := 0 }, { name := "T_BYTE", type := .int, accessFlags := 25, slot := 15, constantValue := 0 }, { name := "T_SHORT", type := .int, accessFlags := 25, slot := 16, constantValue := 0 }, { name := "T_INT", type := .int, accessFlags := 25, slot := 17, constantValue := 0 }, { name := "T_LONG", type := .int, accessFlags := 25, slot := 18, constantValue := 0 }, { name := "JLA", type := (.object "jdk/internal/access/JavaLangAccess"), accessFlags := 26, slot := 19, constantValue := 0 }, { name := "SOFT_MAX_ARRAY_LENGTH", type := .int, accessFlags := 25, slot := 20, constantValue := 0 }]
  methods := #[k20m0]
  instanceTypes := #[]
  staticTypes := #[(.object "jdk/internal/misc/Unsafe"), .boolean, .int, .int, .int, .int, .int, .int, .int, .int, .int, .int, .int, .int, .int, .int, .int, .int, .int, (.object "jdk/internal/access/JavaLangAccess"), .int]
  resolved := Array.replicate 378 none
  statics := none }

def pool21 : Array CpInfo := pool [(1, u "java/lang/Cloneable"), (0, .class_ 1), (0, u "java/lang/Object"), (0, .class_ 3)] 3

/-- java/lang/Cloneable -/
def k21 : Class := { plain "java/lang/Cloneable" (some 0) with
  accessFlags := 1537
  interfaces := #[]
  cf := some (fileOf pool21 2 #[] #[] 1537 4 #[] #[])
  fields := #[]
  methods := #[]
  instanceTypes := #[]
  staticTypes := #[]
  resolved := Array.replicate 8 none
  statics := none }

/-- the primitive byte -/
def k22 : Class := { plain "byte" none with kind := .primitive 'B', accessFlags := 0x411 }
/-- [B -/
def k23 : Class := { plain "[B" (some 0) with kind := .array 22 .byte, interfaces := #[21, 2], accessFlags := 1041 }

/-- the primitive char -/
def k24 : Class := { plain "char" none with kind := .primitive 'C', accessFlags := 0x411 }
/-- [C -/
def k25 : Class := { plain "[C" (some 0) with kind := .array 24 .char, interfaces := #[21, 2], accessFlags := 1041 }

/-- the primitive int -/
def k26 : Class := { plain "int" none with kind := .primitive 'I', accessFlags := 0x411 }
/-- [I -/
def k27 : Class := { plain "[I" (some 0) with kind := .array 26 .int, interfaces := #[21, 2], accessFlags := 1041 }

/-- [Ljava/lang/String; -/
def k28 : Class := { plain "[Ljava/lang/String;" (some 0) with kind := .array 7 (.object "java/lang/String"), interfaces := #[21, 2], accessFlags := 1041 }

def heap : Heap := #[{ cls := 7, slots := #[.long 0, .int 1, .null, .int 0, .null, .int 0, .int 0], vm := .statics 7 },
  { cls := 18, slots := #[.int 0, .int 0, .null, .null, .ref 4, .ref 3, .int 0, .int 0, .long 0], vm := .statics 18 },
  { cls := 19, slots := #[.null, .null, .null], vm := .statics 19 },
  { cls := 23, slots := #[.int 48, .int 49, .int 50, .int 51, .int 52, .int 53, .int 54, .int 55, .int 56, .int 57, .int 48, .int 49, .int 50, .int 51, .int 52, .int 53, .int 54, .int 55, .int 56, .int 57, .int 48, .int 49, .int 50, .int 51, .int 52, .int 53, .int 54, .int 55, .int 56, .int 57, .int 48, .int 49, .int 50, .int 51, .int 52, .int 53, .int 54, .int 55, .int 56, .int 57, .int 48, .int 49, .int 50, .int 51, .int 52, .int 53, .int 54, .int 55, .int 56, .int 57, .int 48, .int 49, .int 50, .int 51, .int 52, .int 53, .int 54, .int 55, .int 56, .int 57, .int 48, .int 49, .int 50, .int 51, .int 52, .int 53, .int 54, .int 55, .int 56, .int 57, .int 48, .int 49, .int 50, .int 51, .int 52, .int 53, .int 54, .int 55, .int 56, .int 57, .int 48, .int 49, .int 50, .int 51, .int 52, .int 53, .int 54, .int 55, .int 56, .int 57, .int 48, .int 49, .int 50, .int 51, .int 52, .int 53, .int 54, .int 55, .int 56, .int 57], vm := .none },
  { cls := 23, slots := #[.int 48, .int 48, .int 48, .int 48, .int 48, .int 48, .int 48, .int 48, .int 48, .int 48, .int 49, .int 49, .int 49, .int 49, .int 49, .int 49, .int 49, .int 49, .int 49, .int 49, .int 50, .int 50, .int 50, .int 50, .int 50, .int 50, .int 50, .int 50, .int 50, .int 50, .int 51, .int 51, .int 51, .int 51, .int 51, .int 51, .int 51, .int 51, .int 51, .int 51, .int 52, .int 52, .int 52, .int 52, .int 52, .int 52, .int 52, .int 52, .int 52, .int 52, .int 53, .int 53, .int 53, .int 53, .int 53, .int 53, .int 53, .int 53, .int 53, .int 53, .int 54, .int 54, .int 54, .int 54, .int 54, .int 54, .int 54, .int 54, .int 54, .int 54, .int 55, .int 55, .int 55, .int 55, .int 55, .int 55, .int 55, .int 55, .int 55, .int 55, .int 56, .int 56, .int 56, .int 56, .int 56, .int 56, .int 56, .int 56, .int 56, .int 56, .int 57, .int 57, .int 57, .int 57, .int 57, .int 57, .int 57, .int 57, .int 57, .int 57], vm := .none }]
def classes : Array Class := #[k0, k1, k2, k3, k4, k5, k6, k7, k8, k9, k10, k11, k12, k13, k14, k15, k16, k17, k18, k19, k20, k21, k22, k23, k24, k25, k26, k27, k28]
def interned : List (Array UInt16 × Addr) := []
def slotsUsed : Nat := 219
def theMethod : MethodId := ⟨1, 1⟩
def args0 : Array Value := #[.int 5, .int 6]
def aboutOver (below : List Frame) : State where
  vm := { classes := classes, interned := interned.toArray }
  heap := heap
  slotsUsed := slotsUsed
  threads := #[{ frames := .invoking theMethod args0 :: below }]
def below0 : List Frame := [.native { method := ⟨0, 0⟩, args := #[] }]
def about1 : State := aboutOver below0
def p0 : Program := .bare "" "" ""
def e0 : Env := launch0.env 0 0 0
theorem w_frames : about1.frames = Frame.invoking theMethod args0 :: below0 := rfl
set_option maxRecDepth 65536 in
theorem w_args : argsFit about1.vm theMethod args0 = true := by decide +kernel
set_option maxRecDepth 65536 in
theorem w_heap : heapFits about1 = true := by decide +kernel
set_option maxRecDepth 65536 in
theorem w_runnable : about1.curStatus? = some .runnable := by decide +kernel
set_option maxRecDepth 65536 in
theorem w_alone : about1.alone = true := by decide +kernel
set_option maxRecDepth 65536 in
theorem w_named : about1.methodNamed? x = some theMethod := by decide +kernel
set_option maxRecDepth 65536 in
theorem w_hears : about1.hears theMethod below0 = true := by decide +kernel
set_option maxRecDepth 65536 in
theorem w_ripe : about1.ripe theMethod args0 below0 = true := by decide +kernel
theorem w_running : about1.status = .running := rfl
set_option maxRecDepth 65536 in
theorem w_room : about1.hasRoom e0.platform room_1 = true :=
  launch0.hasRoom_least _ room_1 (by decide +kernel) (by decide +kernel) (by decide +kernel) (by decide +kernel) (by decide +kernel) (by decide +kernel)
theorem allAtoms_all (ts : List Jvm.Cond) (a : Array Jvm.Value) (st : Jvm.State) : (allAtoms ts).before a st = ts.all (fun c => c.before a st) := by
  induction ts with
  | nil => rfl
  | cons c t ih =>
    show (Jvm.Cond.and c (allAtoms t)).before a st = _
    rw [Jvm.Cond.before_and, ih, List.all_cons]
def words1 : List Jvm.Cond := Jvm.Cond.code x code maxLocals ret :: tables_1
/-- a 'code' word, met by the world's own term for the bytes: nothing is compared byte by byte -/
theorem code_word {y : MethodName} {bytes : ByteArray} {mx : Nat} {rt : Option FieldType} {a : Array Value} {s : State} {m : MethodId} {meth : Method} {c : Code} (h1 : s.methodNamed? y = some m) (h2 : s.vm.method? m = some meth) (h3 : meth.code = some c) (h4 : c.code = bytes)
    (h5 : (c.maxLocals == mx && c.exceptionTable.isEmpty && decide (c.maxStack ≤ mostOperands) && decide (meth.sig.returnType = rt) && !meth.locks && decide (parseMethodDescriptor y.desc = some meth.sig)) = true) : (Jvm.Cond.code y bytes mx rt).before a s = true := by
  simp only [Bool.and_eq_true, beq_iff_eq, Bool.not_eq_true', decide_eq_true_eq] at h5
  obtain ⟨⟨⟨⟨⟨g1, g2⟩, g3⟩, g4⟩, g5⟩, g6⟩ := h5
  simp [Cond.before, Cond.holds, Cond.value, h1, h2, h3, h4, g1, g2, g3, g4, g5, g6]
def isCode : Jvm.Cond → Bool
  | .code _ _ _ _ => true
  | _ => false
theorem all_split {L : List Jvm.Cond} {P : Jvm.Cond → Bool} (h1 : L.all (fun c => isCode c || P c) = true) (h2 : ∀ c ∈ L.filter isCode, P c = true) : L.all P = true := by
  refine List.all_eq_true.mpr fun c hc => ?_
  have h := List.all_eq_true.mp h1 c hc
  rcases Bool.eq_false_or_eq_true (isCode c) with hi | hi
  · exact h2 c (List.mem_filter.mpr ⟨hc, hi⟩)
  · simpa [hi] using h
set_option maxRecDepth 65536 in
theorem w_c0 : (Jvm.Cond.code x code maxLocals ret).before args0 about1 = true := code_word (m := ⟨1, 1⟩) (meth := k1m1) (c := k1c1) (by decide +kernel) rfl rfl rfl (by decide +kernel)
set_option maxRecDepth 65536 in
theorem w_c1 : (Jvm.Cond.code ({ cls := "com/example/hewgen/hewgen/runtime/JsonPath", name := "<init>", desc := "()V" } : Jvm.MethodName) prog_48_method_1_code (1 : Nat) (Option.none : Option Jvm.ClassFile.FieldType)).before args0 about1 = true := code_word (m := ⟨8, 0⟩) (meth := k8m0) (c := k8c0) (by decide +kernel) rfl rfl rfl (by decide +kernel)
set_option maxRecDepth 65536 in
theorem w_c2 : (Jvm.Cond.code ({ cls := "java/lang/Object", name := "<init>", desc := "()V" } : Jvm.MethodName) object_method_1_code (1 : Nat) (Option.none : Option Jvm.ClassFile.FieldType)).before args0 about1 = true := code_word (m := ⟨0, 0⟩) (meth := k0m0) (c := k0c0) (by decide +kernel) rfl rfl rfl (by decide +kernel)
set_option maxRecDepth 65536 in
theorem w_c3 : (Jvm.Cond.code ({ cls := "com/example/hewgen/hewgen/runtime/JsonPath", name := "enterArray", desc := "()V" } : Jvm.MethodName) prog_48_method_4_code (1 : Nat) (Option.none : Option Jvm.ClassFile.FieldType)).before args0 about1 = true := code_word (m := ⟨8, 2⟩) (meth := k8m2) (c := k8c2) (by decide +kernel) rfl rfl rfl (by decide +kernel)
set_option maxRecDepth 65536 in
theorem w_c4 : (Jvm.Cond.code ({ cls := "com/example/hewgen/hewgen/runtime/JsonPath", name := "enter", desc := "(I)V" } : Jvm.MethodName) prog_48_method_12_code (2 : Nat) (Option.none : Option Jvm.ClassFile.FieldType)).before args0 about1 = true := code_word (m := ⟨8, 7⟩) (meth := k8m7) (c := k8c7) (by decide +kernel) rfl rfl rfl (by decide +kernel)
set_option maxRecDepth 65536 in
theorem w_c5 : (Jvm.Cond.code ({ cls := "com/example/hewgen/hewgen/runtime/JsonPath", name := "pointer", desc := "()Ljava/lang/String;" } : Jvm.MethodName) prog_48_method_11_code (3 : Nat) (Option.some (Jvm.ClassFile.FieldType.object "java/lang/String"))).before args0 about1 = true := code_word (m := ⟨8, 6⟩) (meth := k8m6) (c := k8c6) (by decide +kernel) rfl rfl rfl (by decide +kernel)
set_option maxRecDepth 65536 in
theorem w_c6 : (Jvm.Cond.code ({ cls := "java/lang/StringBuilder", name := "<init>", desc := "()V" } : Jvm.MethodName) jdk_67_method_1_code (1 : Nat) (Option.none : Option Jvm.ClassFile.FieldType)).before args0 about1 = true := code_word (m := ⟨11, 0⟩) (meth := k11m0) (c := k11c0) (by decide +kernel) rfl rfl rfl (by decide +kernel)
set_option maxRecDepth 65536 in
theorem w_c7 : (Jvm.Cond.code ({ cls := "java/lang/AbstractStringBuilder", name := "<init>", desc := "(I)V" } : Jvm.MethodName) jdk_68_method_2_code (2 : Nat) (Option.none : Option Jvm.ClassFile.FieldType)).before args0 about1 = true := code_word (m := ⟨10, 1⟩) (meth := k10m1) (c := k10c1) (by decide +kernel) rfl rfl rfl (by decide +kernel)
set_option maxRecDepth 65536 in
theorem w_c8 : (Jvm.Cond.code ({ cls := "java/lang/StringBuilder", name := "toString", desc := "()Ljava/lang/String;" } : Jvm.MethodName) jdk_67_method_42_code (1 : Nat) (Option.some (Jvm.ClassFile.FieldType.object "java/lang/String"))).before args0 about1 = true := code_word (m := ⟨11, 3⟩) (meth := k11m3) (c := k11c3) (by decide +kernel) rfl rfl rfl (by decide +kernel)
set_option maxRecDepth 65536 in
theorem w_c9 : (Jvm.Cond.code ({ cls := "java/lang/String", name := "<init>", desc := "(Ljava/lang/StringBuilder;)V" } : Jvm.MethodName) jdk_42_method_53_code (2 : Nat) (Option.none : Option Jvm.ClassFile.FieldType)).before args0 about1 = true := code_word (m := ⟨7, 2⟩) (meth := k7m2) (c := k7c2) (by decide +kernel) rfl rfl rfl (by decide +kernel)
set_option maxRecDepth 65536 in
theorem w_c10 : (Jvm.Cond.code ({ cls := "java/lang/String", name := "<init>", desc := "(Ljava/lang/AbstractStringBuilder;Ljava/lang/Void;)V" } : Jvm.MethodName) jdk_42_method_150_code (5 : Nat) (Option.none : Option Jvm.ClassFile.FieldType)).before args0 about1 = true := code_word (m := ⟨7, 5⟩) (meth := k7m5) (c := k7c5) (by decide +kernel) rfl rfl rfl (by decide +kernel)
set_option maxRecDepth 65536 in
theorem w_c11 : (Jvm.Cond.code ({ cls := "java/lang/AbstractStringBuilder", name := "getValue", desc := "()[B" } : Jvm.MethodName) jdk_68_method_64_code (1 : Nat) (Option.some (Jvm.ClassFile.FieldType.array Jvm.ClassFile.FieldType.byte))).before args0 about1 = true := code_word (m := ⟨10, 6⟩) (meth := k10m6) (c := k10c6) (by decide +kernel) rfl rfl rfl (by decide +kernel)
set_option maxRecDepth 65536 in
theorem w_c12 : (Jvm.Cond.code ({ cls := "java/lang/StringBuilder", name := "length", desc := "()I" } : Jvm.MethodName) jdk_67_method_93_code (1 : Nat) (Option.some Jvm.ClassFile.FieldType.int)).before args0 about1 = true := code_word (m := ⟨11, 4⟩) (meth := k11m4) (c := k11c4) (by decide +kernel) rfl rfl rfl (by decide +kernel)
set_option maxRecDepth 65536 in
theorem w_c13 : (Jvm.Cond.code ({ cls := "java/lang/AbstractStringBuilder", name := "length", desc := "()I" } : Jvm.MethodName) jdk_68_method_6_code (1 : Nat) (Option.some Jvm.ClassFile.FieldType.int)).before args0 about1 = true := code_word (m := ⟨10, 2⟩) (meth := k10m2) (c := k10c2) (by decide +kernel) rfl rfl rfl (by decide +kernel)
set_option maxRecDepth 65536 in
theorem w_c14 : (Jvm.Cond.code ({ cls := "java/lang/AbstractStringBuilder", name := "isLatin1", desc := "()Z" } : Jvm.MethodName) jdk_68_method_68_code (1 : Nat) (Option.some Jvm.ClassFile.FieldType.boolean)).before args0 about1 = true := code_word (m := ⟨10, 7⟩) (meth := k10m7) (c := k10c7) (by decide +kernel) rfl rfl rfl (by decide +kernel)
set_option maxRecDepth 65536 in
theorem w_c15 : (Jvm.Cond.code ({ cls := "java/util/Arrays", name := "copyOfRange", desc := "([BII)[B" } : Jvm.MethodName) jdk_65_method_132_code (3 : Nat) (Option.some (Jvm.ClassFile.FieldType.array Jvm.ClassFile.FieldType.byte))).before args0 about1 = true := code_word (m := ⟨12, 2⟩) (meth := k12m2) (c := k12c2) (by decide +kernel) rfl rfl rfl (by decide +kernel)
set_option maxRecDepth 65536 in
theorem w_c16 : (Jvm.Cond.code ({ cls := "java/util/Arrays", name := "copyOfRangeByte", desc := "([BII)[B" } : Jvm.MethodName) jdk_65_method_133_code (5 : Nat) (Option.some (Jvm.ClassFile.FieldType.array Jvm.ClassFile.FieldType.byte))).before args0 about1 = true := code_word (m := ⟨12, 3⟩) (meth := k12m3) (c := k12c3) (by decide +kernel) rfl rfl rfl (by decide +kernel)
set_option maxRecDepth 65536 in
theorem w_c17 : (Jvm.Cond.code ({ cls := "java/util/Arrays", name := "checkLength", desc := "(II)V" } : Jvm.MethodName) jdk_65_method_131_code (2 : Nat) (Option.none : Option Jvm.ClassFile.FieldType)).before args0 about1 = true := code_word (m := ⟨12, 1⟩) (meth := k12m1) (c := k12c1) (by decide +kernel) rfl rfl rfl (by decide +kernel)
set_option maxRecDepth 65536 in
theorem w_c18 : (Jvm.Cond.code ({ cls := "java/lang/Math", name := "min", desc := "(II)I" } : Jvm.MethodName) jdk_29_method_69_code (2 : Nat) (Option.some Jvm.ClassFile.FieldType.int)).before args0 about1 = true := code_word (m := ⟨13, 1⟩) (meth := k13m1) (c := k13c1) (by decide +kernel) rfl rfl rfl (by decide +kernel)
set_option maxRecDepth 65536 in
theorem w_c19 : (Jvm.Cond.code ({ cls := "java/lang/String", name := "equals", desc := "(Ljava/lang/Object;)Z" } : Jvm.MethodName) jdk_42_method_66_code (3 : Nat) (Option.some Jvm.ClassFile.FieldType.boolean)).before args0 about1 = true := code_word (m := ⟨7, 3⟩) (meth := k7m3) (c := k7c3) (by decide +kernel) rfl rfl rfl (by decide +kernel)
set_option maxRecDepth 65536 in
theorem w_c20 : (Jvm.Cond.code ({ cls := "java/lang/StringLatin1", name := "equals", desc := "([B[B)Z" } : Jvm.MethodName) jdk_43_method_13_code (3 : Nat) (Option.some Jvm.ClassFile.FieldType.boolean)).before args0 about1 = true := code_word (m := ⟨15, 2⟩) (meth := k15m2) (c := k15c2) (by decide +kernel) rfl rfl rfl (by decide +kernel)
set_option maxRecDepth 65536 in
theorem w_c21 : (Jvm.Cond.code ({ cls := "com/example/hewgen/hewgen/runtime/JsonPath", name := "atStart", desc := "()Z" } : Jvm.MethodName) prog_48_method_7_code (1 : Nat) (Option.some Jvm.ClassFile.FieldType.boolean)).before args0 about1 = true := code_word (m := ⟨8, 4⟩) (meth := k8m4) (c := k8c4) (by decide +kernel) rfl rfl rfl (by decide +kernel)
set_option maxRecDepth 65536 in
theorem w_c22 : (Jvm.Cond.code ({ cls := "com/example/hewgen/hewgen/runtime/JsonPath", name := "inArray", desc := "()Z" } : Jvm.MethodName) prog_48_method_6_code (1 : Nat) (Option.some Jvm.ClassFile.FieldType.boolean)).before args0 about1 = true := code_word (m := ⟨8, 3⟩) (meth := k8m3) (c := k8c3) (by decide +kernel) rfl rfl rfl (by decide +kernel)
set_option maxRecDepth 65536 in
theorem w_c23 : (Jvm.Cond.code ({ cls := "com/example/hewgen/hewgen/runtime/JsonPath", name := "depth", desc := "()I" } : Jvm.MethodName) prog_48_method_2_code (1 : Nat) (Option.some Jvm.ClassFile.FieldType.int)).before args0 about1 = true := code_word (m := ⟨8, 1⟩) (meth := k8m1) (c := k8c1) (by decide +kernel) rfl rfl rfl (by decide +kernel)
set_option maxRecDepth 65536 in
theorem w_c24 : (Jvm.Cond.code ({ cls := "java/lang/String", name := "<init>", desc := "([C)V" } : Jvm.MethodName) jdk_42_method_3_code (2 : Nat) (Option.none : Option Jvm.ClassFile.FieldType)).before args0 about1 = true := code_word (m := ⟨7, 1⟩) (meth := k7m1) (c := k7c1) (by decide +kernel) rfl rfl rfl (by decide +kernel)
set_option maxRecDepth 65536 in
theorem w_c25 : (Jvm.Cond.code ({ cls := "java/lang/String", name := "<init>", desc := "([CIILjava/lang/Void;)V" } : Jvm.MethodName) jdk_42_method_149_code (6 : Nat) (Option.none : Option Jvm.ClassFile.FieldType)).before args0 about1 = true := code_word (m := ⟨7, 4⟩) (meth := k7m4) (c := k7c4) (by decide +kernel) rfl rfl rfl (by decide +kernel)
set_option maxRecDepth 65536 in
theorem w_c26 : (Jvm.Cond.code ({ cls := "java/lang/StringUTF16", name := "compress", desc := "([CII)[B" } : Jvm.MethodName) jdk_52_method_16_code (6 : Nat) (Option.some (Jvm.ClassFile.FieldType.array Jvm.ClassFile.FieldType.byte))).before args0 about1 = true := code_word (m := ⟨16, 2⟩) (meth := k16m2) (c := k16c2) (by decide +kernel) rfl rfl rfl (by decide +kernel)
set_option maxRecDepth 65536 in
theorem w_c27 : (Jvm.Cond.code ({ cls := "java/lang/StringUTF16", name := "compress", desc := "([CI[BII)I" } : Jvm.MethodName) jdk_52_method_21_code (7 : Nat) (Option.some Jvm.ClassFile.FieldType.int)).before args0 about1 = true := code_word (m := ⟨16, 3⟩) (meth := k16m3) (c := k16c3) (by decide +kernel) rfl rfl rfl (by decide +kernel)
set_option maxRecDepth 65536 in
theorem w_c28 : (Jvm.Cond.code ({ cls := "java/lang/StringUTF16", name := "coderFromArrayLen", desc := "([BI)B" } : Jvm.MethodName) jdk_52_method_15_code (2 : Nat) (Option.some Jvm.ClassFile.FieldType.byte)).before args0 about1 = true := code_word (m := ⟨16, 1⟩) (meth := k16m1) (c := k16c1) (by decide +kernel) rfl rfl rfl (by decide +kernel)
set_option maxRecDepth 65536 in
theorem w_c29 : (Jvm.Cond.code ({ cls := "com/example/hewgen/hewgen/runtime/JsonPath", name := "nextIndex", desc := "()V" } : Jvm.MethodName) prog_48_method_9_code (1 : Nat) (Option.none : Option Jvm.ClassFile.FieldType)).before args0 about1 = true := code_word (m := ⟨8, 5⟩) (meth := k8m5) (c := k8c5) (by decide +kernel) rfl rfl rfl (by decide +kernel)
set_option maxRecDepth 65536 in
theorem w_c30 : (Jvm.Cond.code ({ cls := "java/lang/StringBuilder", name := "append", desc := "(C)Ljava/lang/StringBuilder;" } : Jvm.MethodName) jdk_67_method_14_code (2 : Nat) (Option.some (Jvm.ClassFile.FieldType.object "java/lang/StringBuilder"))).before args0 about1 = true := code_word (m := ⟨11, 1⟩) (meth := k11m1) (c := k11c1) (by decide +kernel) rfl rfl rfl (by decide +kernel)
set_option maxRecDepth 65536 in
theorem w_c31 : (Jvm.Cond.code ({ cls := "java/lang/AbstractStringBuilder", name := "append", desc := "(C)Ljava/lang/AbstractStringBuilder;" } : Jvm.MethodName) jdk_68_method_31_code (2 : Nat) (Option.some (Jvm.ClassFile.FieldType.object "java/lang/AbstractStringBuilder"))).before args0 about1 = true := code_word (m := ⟨10, 4⟩) (meth := k10m4) (c := k10c4) (by decide +kernel) rfl rfl rfl (by decide +kernel)
set_option maxRecDepth 65536 in
theorem w_c32 : (Jvm.Cond.code ({ cls := "java/lang/AbstractStringBuilder", name := "ensureCapacityInternal", desc := "(I)V" } : Jvm.MethodName) jdk_68_method_9_code (3 : Nat) (Option.none : Option Jvm.ClassFile.FieldType)).before args0 about1 = true := code_word (m := ⟨10, 3⟩) (meth := k10m3) (c := k10c3) (by decide +kernel) rfl rfl rfl (by decide +kernel)
set_option maxRecDepth 65536 in
theorem w_c33 : (Jvm.Cond.code ({ cls := "java/lang/StringLatin1", name := "canEncode", desc := "(C)Z" } : Jvm.MethodName) jdk_43_method_3_code (1 : Nat) (Option.some Jvm.ClassFile.FieldType.boolean)).before args0 about1 = true := code_word (m := ⟨15, 1⟩) (meth := k15m1) (c := k15c1) (by decide +kernel) rfl rfl rfl (by decide +kernel)
set_option maxRecDepth 65536 in
theorem w_c34 : (Jvm.Cond.code ({ cls := "java/lang/StringBuilder", name := "append", desc := "(I)Ljava/lang/StringBuilder;" } : Jvm.MethodName) jdk_67_method_15_code (2 : Nat) (Option.some (Jvm.ClassFile.FieldType.object "java/lang/StringBuilder"))).before args0 about1 = true := code_word (m := ⟨11, 2⟩) (meth := k11m2) (c := k11c2) (by decide +kernel) rfl rfl rfl (by decide +kernel)
set_option maxRecDepth 65536 in
theorem w_c35 : (Jvm.Cond.code ({ cls := "java/lang/AbstractStringBuilder", name := "append", desc := "(I)Ljava/lang/AbstractStringBuilder;" } : Jvm.MethodName) jdk_68_method_32_code (4 : Nat) (Option.some (Jvm.ClassFile.FieldType.object "java/lang/AbstractStringBuilder"))).before args0 about1 = true := code_word (m := ⟨10, 5⟩) (meth := k10m5) (c := k10c5) (by decide +kernel) rfl rfl rfl (by decide +kernel)
set_option maxRecDepth 65536 in
theorem w_c36 : (Jvm.Cond.code ({ cls := "java/lang/Integer", name := "stringSize", desc := "(I)I" } : Jvm.MethodName) jdk_33_method_13_code (4 : Nat) (Option.some Jvm.ClassFile.FieldType.int)).before args0 about1 = true := code_word (m := ⟨18, 1⟩) (meth := k18m1) (c := k18c1) (by decide +kernel) rfl rfl rfl (by decide +kernel)
set_option maxRecDepth 65536 in
theorem w_c37 : (Jvm.Cond.code ({ cls := "java/lang/Integer", name := "getChars", desc := "(II[B)I" } : Jvm.MethodName) jdk_33_method_12_code (7 : Nat) (Option.some Jvm.ClassFile.FieldType.int)).before args0 about1 = true := code_word (m := ⟨18, 0⟩) (meth := k18m0) (c := k18c0) (by decide +kernel) rfl rfl rfl (by decide +kernel)
def codes1 : List Jvm.Cond := [Jvm.Cond.code x code maxLocals ret, Jvm.Cond.code ({ cls := "com/example/hewgen/hewgen/runtime/JsonPath", name := "<init>", desc := "()V" } : Jvm.MethodName) prog_48_method_1_code (1 : Nat) (Option.none : Option Jvm.ClassFile.FieldType), Jvm.Cond.code ({ cls := "java/lang/Object", name := "<init>", desc := "()V" } : Jvm.MethodName) object_method_1_code (1 : Nat) (Option.none : Option Jvm.ClassFile.FieldType), Jvm.Cond.code ({ cls := "com/example/hewgen/hewgen/runtime/JsonPath", name := "enterArray", desc := "()V" } : Jvm.MethodName) prog_48_method_4_code (1 : Nat) (Option.none : Option Jvm.ClassFile.FieldType), Jvm.Cond.code ({ cls := "com/example/hewgen/hewgen/runtime/JsonPath", name := "enter", desc := "(I)V" } : Jvm.MethodName) prog_48_method_12_code (2 : Nat) (Option.none : Option Jvm.ClassFile.FieldType), Jvm.Cond.code ({ cls := "com/example/hewgen/hewgen/runtime/JsonPath", name := "pointer", desc := "()Ljava/lang/String;" } : Jvm.MethodName) prog_48_method_11_code (3 : Nat) (Option.some (Jvm.ClassFile.FieldType.object "java/lang/String")), Jvm.Cond.code ({ cls := "java/lang/StringBuilder", name := "<init>", desc := "()V" } : Jvm.MethodName) jdk_67_method_1_code (1 : Nat) (Option.none : Option Jvm.ClassFile.FieldType), Jvm.Cond.code ({ cls := "java/lang/AbstractStringBuilder", name := "<init>", desc := "(I)V" } : Jvm.MethodName) jdk_68_method_2_code (2 : Nat) (Option.none : Option Jvm.ClassFile.FieldType), Jvm.Cond.code ({ cls := "java/lang/StringBuilder", name := "toString", desc := "()Ljava/lang/String;" } : Jvm.MethodName) jdk_67_method_42_code (1 : Nat) (Option.some (Jvm.ClassFile.FieldType.object "java/lang/String")), Jvm.Cond.code ({ cls := "java/lang/String", name := "<init>", desc := "(Ljava/lang/StringBuilder;)V" } : Jvm.MethodName) jdk_42_method_53_code (2 : Nat) (Option.none : Option Jvm.ClassFile.FieldType), Jvm.Cond.code ({ cls := "java/lang/String", name := "<init>", desc := "(Ljava/lang/AbstractStringBuilder;Ljava/lang/Void;)V" } : Jvm.MethodName) jdk_42_method_150_code (5 : Nat) (Option.none : Option Jvm.ClassFile.FieldType), Jvm.Cond.code ({ cls := "java/lang/AbstractStringBuilder", name := "getValue", desc := "()[B" } : Jvm.MethodName) jdk_68_method_64_code (1 : Nat) (Option.some (Jvm.ClassFile.FieldType.array Jvm.ClassFile.FieldType.byte)), Jvm.Cond.code ({ cls := "java/lang/StringBuilder", name := "length", desc := "()I" } : Jvm.MethodName) jdk_67_method_93_code (1 : Nat) (Option.some Jvm.ClassFile.FieldType.int), Jvm.Cond.code ({ cls := "java/lang/AbstractStringBuilder", name := "length", desc := "()I" } : Jvm.MethodName) jdk_68_method_6_code (1 : Nat) (Option.some Jvm.ClassFile.FieldType.int), Jvm.Cond.code ({ cls := "java/lang/AbstractStringBuilder", name := "isLatin1", desc := "()Z" } : Jvm.MethodName) jdk_68_method_68_code (1 : Nat) (Option.some Jvm.ClassFile.FieldType.boolean), Jvm.Cond.code ({ cls := "java/util/Arrays", name := "copyOfRange", desc := "([BII)[B" } : Jvm.MethodName) jdk_65_method_132_code (3 : Nat) (Option.some (Jvm.ClassFile.FieldType.array Jvm.ClassFile.FieldType.byte)), Jvm.Cond.code ({ cls := "java/util/Arrays", name := "copyOfRangeByte", desc := "([BII)[B" } : Jvm.MethodName) jdk_65_method_133_code (5 : Nat) (Option.some (Jvm.ClassFile.FieldType.array Jvm.ClassFile.FieldType.byte)), Jvm.Cond.code ({ cls := "java/util/Arrays", name := "checkLength", desc := "(II)V" } : Jvm.MethodName) jdk_65_method_131_code (2 : Nat) (Option.none : Option Jvm.ClassFile.FieldType), Jvm.Cond.code ({ cls := "java/lang/Math", name := "min", desc := "(II)I" } : Jvm.MethodName) jdk_29_method_69_code (2 : Nat) (Option.some Jvm.ClassFile.FieldType.int), Jvm.Cond.code ({ cls := "java/lang/String", name := "equals", desc := "(Ljava/lang/Object;)Z" } : Jvm.MethodName) jdk_42_method_66_code (3 : Nat) (Option.some Jvm.ClassFile.FieldType.boolean), Jvm.Cond.code ({ cls := "java/lang/StringLatin1", name := "equals", desc := "([B[B)Z" } : Jvm.MethodName) jdk_43_method_13_code (3 : Nat) (Option.some Jvm.ClassFile.FieldType.boolean), Jvm.Cond.code ({ cls := "com/example/hewgen/hewgen/runtime/JsonPath", name := "atStart", desc := "()Z" } : Jvm.MethodName) prog_48_method_7_code (1 : Nat) (Option.some Jvm.ClassFile.FieldType.boolean), Jvm.Cond.code ({ cls := "com/example/hewgen/hewgen/runtime/JsonPath", name := "inArray", desc := "()Z" } : Jvm.MethodName) prog_48_method_6_code (1 : Nat) (Option.some Jvm.ClassFile.FieldType.boolean), Jvm.Cond.code ({ cls := "com/example/hewgen/hewgen/runtime/JsonPath", name := "depth", desc := "()I" } : Jvm.MethodName) prog_48_method_2_code (1 : Nat) (Option.some Jvm.ClassFile.FieldType.int), Jvm.Cond.code ({ cls := "java/lang/String", name := "<init>", desc := "([C)V" } : Jvm.MethodName) jdk_42_method_3_code (2 : Nat) (Option.none : Option Jvm.ClassFile.FieldType), Jvm.Cond.code ({ cls := "java/lang/String", name := "<init>", desc := "([CIILjava/lang/Void;)V" } : Jvm.MethodName) jdk_42_method_149_code (6 : Nat) (Option.none : Option Jvm.ClassFile.FieldType), Jvm.Cond.code ({ cls := "java/lang/StringUTF16", name := "compress", desc := "([CII)[B" } : Jvm.MethodName) jdk_52_method_16_code (6 : Nat) (Option.some (Jvm.ClassFile.FieldType.array Jvm.ClassFile.FieldType.byte)), Jvm.Cond.code ({ cls := "java/lang/StringUTF16", name := "compress", desc := "([CI[BII)I" } : Jvm.MethodName) jdk_52_method_21_code (7 : Nat) (Option.some Jvm.ClassFile.FieldType.int), Jvm.Cond.code ({ cls := "java/lang/StringUTF16", name := "coderFromArrayLen", desc := "([BI)B" } : Jvm.MethodName) jdk_52_method_15_code (2 : Nat) (Option.some Jvm.ClassFile.FieldType.byte), Jvm.Cond.code ({ cls := "com/example/hewgen/hewgen/runtime/JsonPath", name := "nextIndex", desc := "()V" } : Jvm.MethodName) prog_48_method_9_code (1 : Nat) (Option.none : Option Jvm.ClassFile.FieldType), Jvm.Cond.code ({ cls := "java/lang/StringBuilder", name := "append", desc := "(C)Ljava/lang/StringBuilder;" } : Jvm.MethodName) jdk_67_method_14_code (2 : Nat) (Option.some (Jvm.ClassFile.FieldType.object "java/lang/StringBuilder")), Jvm.Cond.code ({ cls := "java/lang/AbstractStringBuilder", name := "append", desc := "(C)Ljava/lang/AbstractStringBuilder;" } : Jvm.MethodName) jdk_68_method_31_code (2 : Nat) (Option.some (Jvm.ClassFile.FieldType.object "java/lang/AbstractStringBuilder")), Jvm.Cond.code ({ cls := "java/lang/AbstractStringBuilder", name := "ensureCapacityInternal", desc := "(I)V" } : Jvm.MethodName) jdk_68_method_9_code (3 : Nat) (Option.none : Option Jvm.ClassFile.FieldType), Jvm.Cond.code ({ cls := "java/lang/StringLatin1", name := "canEncode", desc := "(C)Z" } : Jvm.MethodName) jdk_43_method_3_code (1 : Nat) (Option.some Jvm.ClassFile.FieldType.boolean), Jvm.Cond.code ({ cls := "java/lang/StringBuilder", name := "append", desc := "(I)Ljava/lang/StringBuilder;" } : Jvm.MethodName) jdk_67_method_15_code (2 : Nat) (Option.some (Jvm.ClassFile.FieldType.object "java/lang/StringBuilder")), Jvm.Cond.code ({ cls := "java/lang/AbstractStringBuilder", name := "append", desc := "(I)Ljava/lang/AbstractStringBuilder;" } : Jvm.MethodName) jdk_68_method_32_code (4 : Nat) (Option.some (Jvm.ClassFile.FieldType.object "java/lang/AbstractStringBuilder")), Jvm.Cond.code ({ cls := "java/lang/Integer", name := "stringSize", desc := "(I)I" } : Jvm.MethodName) jdk_33_method_13_code (4 : Nat) (Option.some Jvm.ClassFile.FieldType.int), Jvm.Cond.code ({ cls := "java/lang/Integer", name := "getChars", desc := "(II[B)I" } : Jvm.MethodName) jdk_33_method_12_code (7 : Nat) (Option.some Jvm.ClassFile.FieldType.int)]
set_option maxRecDepth 65536 in
theorem codes_eq : words1.filter isCode = codes1 := rfl
theorem w_codes : ∀ c ∈ words1.filter isCode, c.before args0 about1 = true := by
  rw [codes_eq]
  intro c hc
  simp only [codes1, List.mem_cons, List.not_mem_nil, or_false] at hc
  rcases hc with rfl | rfl | rfl | rfl | rfl | rfl | rfl | rfl | rfl | rfl | rfl | rfl | rfl | rfl | rfl | rfl | rfl | rfl | rfl | rfl | rfl | rfl | rfl | rfl | rfl | rfl | rfl | rfl | rfl | rfl | rfl | rfl | rfl | rfl | rfl | rfl | rfl | rfl
  · exact w_c0
  · exact w_c1
  · exact w_c2
  · exact w_c3
  · exact w_c4
  · exact w_c5
  · exact w_c6
  · exact w_c7
  · exact w_c8
  · exact w_c9
  · exact w_c10
  · exact w_c11
  · exact w_c12
  · exact w_c13
  · exact w_c14
  · exact w_c15
  · exact w_c16
  · exact w_c17
  · exact w_c18
  · exact w_c19
  · exact w_c20
  · exact w_c21
  · exact w_c22
  · exact w_c23
  · exact w_c24
  · exact w_c25
  · exact w_c26
  · exact w_c27
  · exact w_c28
  · exact w_c29
  · exact w_c30
  · exact w_c31
  · exact w_c32
  · exact w_c33
  · exact w_c34
  · exact w_c35
  · exact w_c36
  · exact w_c37
set_option maxRecDepth 65536 in
theorem w_t1 : (words1.take 24).all (fun c => isCode c || c.before args0 about1) = true := by decide +kernel
set_option maxRecDepth 65536 in
theorem w_t2 : ((words1.drop 24).take 24).all (fun c => isCode c || c.before args0 about1) = true := by decide +kernel
set_option maxRecDepth 65536 in
theorem w_t3 : (((words1.drop 24).drop 24).take 24).all (fun c => isCode c || c.before args0 about1) = true := by decide +kernel
set_option maxRecDepth 65536 in
theorem w_t4 : ((((words1.drop 24).drop 24).drop 24).take 24).all (fun c => isCode c || c.before args0 about1) = true := by decide +kernel
set_option maxRecDepth 65536 in
theorem w_t5 : (((((words1.drop 24).drop 24).drop 24).drop 24).take 24).all (fun c => isCode c || c.before args0 about1) = true := by decide +kernel
set_option maxRecDepth 65536 in
theorem w_t6 : ((((((words1.drop 24).drop 24).drop 24).drop 24).drop 24).take 24).all (fun c => isCode c || c.before args0 about1) = true := by decide +kernel
set_option maxRecDepth 65536 in
theorem w_t7 : (((((((words1.drop 24).drop 24).drop 24).drop 24).drop 24).drop 24).take 24).all (fun c => isCode c || c.before args0 about1) = true := by decide +kernel
set_option maxRecDepth 65536 in
theorem w_t8 : ((((((((words1.drop 24).drop 24).drop 24).drop 24).drop 24).drop 24).drop 24).take 24).all (fun c => isCode c || c.before args0 about1) = true := by decide +kernel
set_option maxRecDepth 65536 in
theorem w_t9 : ((((((((words1.drop 24).drop 24).drop 24).drop 24).drop 24).drop 24).drop 24).drop 24).all (fun c => isCode c || c.before args0 about1) = true := by decide +kernel
theorem w_tables : (allAtoms (Jvm.Cond.code x code maxLocals ret :: tables_1)).before args0 about1 = true := by
  rw [allAtoms_all]
  show words1.all (fun c => c.before args0 about1) = true
  refine all_split ?_ w_codes
  rw [← List.take_append_drop 24 words1, List.all_append, w_t1, ← List.take_append_drop 24 (words1.drop 24), List.all_append, w_t2, ← List.take_append_drop 24 ((words1.drop 24).drop 24), List.all_append, w_t3, ← List.take_append_drop 24 (((words1.drop 24).drop 24).drop 24), List.all_append, w_t4, ← List.take_append_drop 24 ((((words1.drop 24).drop 24).drop 24).drop 24), List.all_append, w_t5, ← List.take_append_drop 24 (((((words1.drop 24).drop 24).drop 24).drop 24).drop 24), List.all_append, w_t6, ← List.take_append_drop 24 ((((((words1.drop 24).drop 24).drop 24).drop 24).drop 24).drop 24), List.all_append, w_t7, ← List.take_append_drop 24 (((((((words1.drop 24).drop 24).drop 24).drop 24).drop 24).drop 24).drop 24), List.all_append, w_t8, w_t9]
  rfl
set_option maxRecDepth 65536 in
theorem w_rest : rest_1_c.before args0 about1 = true := by decide +kernel
set_option maxRecDepth 65536 in
theorem w_case : (Jvm.Cond.and given_1 narrow_1).before args0 about1 = true := by decide +kernel
set_option maxRecDepth 65536 in
theorem w_consts : constsHeld consts_1 about1 := Jvm.Lit.constsHeldB_iff.mp (by decide +kernel)
theorem w_applies : (headSpec (Jvm.Cond.code x code maxLocals ret :: tables_1) room_1).applies x e0.platform about1 = true :=
  (Spec.applies_iff w_frames).mpr ⟨w_running, w_runnable, w_alone, w_named, w_hears, w_ripe, w_room, w_tables⟩
theorem atStart : AtStart classFile x code maxLocals ret World_1 tables_1 room_1 Calls_1 rest_1 Pre_1 launch0 p0 e0 about1 theMethod args0 below0 :=
  ⟨lists_1, trivial, launch0.admits_env _ _ _, launch0.least_env, fairChoices_fair.cas, fairChoices_fair.clock, w_frames, w_args, w_heap, w_applies, ⟨w_consts, trivial⟩, w_rest, w_case⟩
end start1
theorem witness_1 : WitnessClaimed_1 := ⟨start1.p0, start1.e0, start1.about1, start1.theMethod, start1.args0, start1.below0, start1.atStart⟩
end Jvm.Pilot.@@N@@
