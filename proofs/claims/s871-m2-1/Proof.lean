import JvmDerived
import JvmDerived.Pilot.@@N@@Statement
import JvmDerived.Pilot.@@N@@Code
set_option linter.unusedVariables false
set_option linter.unusedSimpArgs false
namespace Jvm.RoadKit
open Sem ClassFile Op Lib Jvm.Stand Jvm.Free Jvm.LawKit
section New
variable {p : Program} {l : Launch} {e : Env} {R : Room} {s : State} {m : MethodId} {args : Array Value} {below : List Frame} {meth : Method} {c : Code} {T : State} {locs : List Loc} {cells slots : Nat}
theorem retI (X : Stand p l e R s m args below meth c T locs cells slots) (hx : p.tables.exec = Jvm.exec) {pc : Nat} {Ls : Array Slot} {z : Int32} {rest : List Value} (hret : meth.sig.returnType = some .int) (hd : decode c.code pc = .ok (.ireturn, 1)) {fs : List Frame}
    (hl : ∀ (f : JFrame) (acts : List Action), f.method = m → f.locked = none → f.entered = [] → (doReturn e (T.setTop f) acts (some (.int z))).1 = T.setFrames fs) : Steps p.tables e below (T.setTop (mkF m pc Ls (.int z :: rest))) (T.setFrames fs) := by
  have hm' : T.vm.method? m = some meth := X.method'
  have hn : narrow .int (.int z) = .int z := rfl
  show Steps p.tables e below (T.setTop { method := m, pc := pc, locals := Ls, stack := _ :: rest, locked := none }) _
  jvm_step X.here [X.here.top, hx, hd, hm', hret, hn]
  first | (intro acts; rw [hl _ acts rfl rfl rfl]) | rw [hl _ _ rfl rfl rfl]
  exact Steps.refl _
end New
end Jvm.RoadKit
namespace Jvm.Pilot.@@N@@
open Jvm Jvm.ClassFile Sem Op Lib Jvm.Free Jvm.Stand Jvm.LawKit Jvm.RoadKit Bundle Jvm.Pilot.@@N@@.Jvm.D
theorem ow {Z : State} {a0 : Array Value} (hw : ∀ d ∈ tables_1, d.before a0 Z = true) (i : Nat) {d : Jvm.Cond} (h : tables_1[i]? = some d) : d.before a0 Z = true := hw _ (List.mem_of_getElem? h)
def own_b (P : Prop) [Decidable P] : Int32 := if P then 1 else 0
theorem own_b_t {P : Prop} [Decidable P] (h : P) : own_b P = 1 := if_pos h
theorem own_b_f {P : Prop} [Decidable P] (h : ¬ P) : own_b P = 0 := if_neg h
theorem own_b_nz {P : Prop} [Decidable P] (h : P) : ¬ (own_b P = (0 : Int32)) := by rw [own_b_t h]; decide
theorem own_b_nar (P : Prop) [Decidable P] : nar .boolean (own_b P) = own_b P := by
  by_cases h : P
  · rw [own_b_t h]; rfl
  · rw [own_b_f h]; rfl
theorem own_sel {Z s : State} {a0 args : Array Value} {y : MethodName} {n : Nat} (hZ : Z.Warmed39 s.vm) (wi : (Jvm.Cond.instantiable y.cls n).before a0 Z = true) (wp : (Jvm.Cond.privateMethod y).before a0 Z = true) (wm : (Jvm.Cond.instanceMethod y).before a0 Z = true) (hy : y.cls ≠ "java/lang/invoke/MethodHandle" ∧ y.cls ≠ "java/lang/invoke/VarHandle") : (Jvm.Cond.selects y.cls y y).before args s = true := by
  have wi' : (Jvm.Cond.instantiable y.cls n).before args s = true := mvT hZ wi
  obtain ⟨c, k, h1, h2, h3, h4, -⟩ := Cond.instantiable_spec wi'
  have h5 : k.isInterface = false := by
    cases hq : k.isInterface with
    | false => rfl
    | true => rw [hq] at h4; simp at h4
  exact Jvm.Stand.selects_self_of_private h1 h2 h5 (Cond.privateMethod_at (mvP hZ wp (args := args))) (mvT hZ wm) hy
theorem own_nf {s : State} {args : Array Value} {C : String} {y y' : MethodName} (w : (Jvm.Cond.selects C y' y').before args s = true) (e : y'.cls = y.cls) : NotFace s y := fun r0 h0 => by
  obtain ⟨c2, r2, m2, q1, q2, q3, q4, kP, hkP, hkPi⟩ := Cond.selects_spec w
  have h1 := findClass_of_methodNamed h0
  have h2 := findClass_of_methodNamed q3
  rw [e] at h2
  have h3 := Option.some.inj (h1.symm.trans h2)
  exact ⟨kP, by rw [h3]; exact hkP, hkPi⟩
theorem own_selN {Z s : State} {a0 args : Array Value} {y : MethodName} (hZ : Z.Warmed39 s.vm) (nf : NotFace s y) (wp : (Jvm.Cond.privateMethod y).before a0 Z = true) (wm : (Jvm.Cond.instanceMethod y).before a0 Z = true) (hy : y.cls ≠ "java/lang/invoke/MethodHandle" ∧ y.cls ≠ "java/lang/invoke/VarHandle") : (Jvm.Cond.selects y.cls y y).before args s = true := by
  have wm' : (Jvm.Cond.instanceMethod y).before args s = true := mvT hZ wm
  obtain ⟨mk, methM, hnamed, -⟩ := Cond.instanceMethod_spec wm'
  obtain ⟨k, hk, hki⟩ := nf mk hnamed
  exact Jvm.Stand.selects_self_of_private (findClass_of_methodNamed hnamed) hk hki (Cond.privateMethod_at (mvP hZ wp (args := args))) wm' hy
theorem own_b01 (P : Prop) [Decidable P] : own_b P = (0 : Int32) ∨ own_b P = (1 : Int32) := by
  by_cases h : P
  · exact Or.inr (own_b_t h)
  · exact Or.inl (own_b_f h)
theorem own_b_iff {P : Prop} [Decidable P] : own_b P = (0 : Int32) ↔ ¬ P := ⟨fun q h => own_b_nz h q, own_b_f⟩
abbrev oN : String := "com/example/tackboard/tackboard/core/Note"
def own_fit (x w : Int32) : Int32 := (((((w.toInt64) &&& (2147483647 : Int64)) - (((w.toInt64) &&& (2147483647 : Int64)) / (((2147483647 : Int64) - (x.toInt64)) + (1 : Int64))) * (((2147483647 : Int64) - (x.toInt64)) + (1 : Int64)))).toInt32)
theorem own_rm (x : Int32) : ((((2147483647 : Int64) - (x.toInt64)) + (1 : Int64))).toInt = 2147483648 - x.toInt := by
  have h1 := c_lsub 2147483647 x.toInt64
  have h2 := c_ladd (2147483647 - x.toInt64) 1
  have h3 := c_i2l x
  have r := rng32 x
  have r1 := rng64 (2147483647 - x.toInt64)
  have r2 := rng64 (2147483647 - x.toInt64 + 1)
  have e1 : (2147483647 : Int64).toInt = 2147483647 := by decide
  have e2 : (1 : Int64).toInt = 1 := by decide
  omega
theorem own_fnz (x : Int32) : (((2147483647 : Int64) - (x.toInt64)) + (1 : Int64)) ≠ 0 := fun q => by
  have h := own_rm x
  have r := rng32 x
  rw [q] at h
  have e0 : (0 : Int64).toInt = 0 := by decide
  omega
theorem own_fitr (x w : Int32) : 0 ≤ (own_fit x w).toInt ∧ x.toInt + (own_fit x w).toInt ≤ 2147483647 := by
  unfold own_fit
  rw [lrem_mod]
  have hR := own_rm x
  have r := rng32 x
  generalize hy : (((2147483647 : Int64) - (x.toInt64)) + (1 : Int64)) = y at *
  have hW := c_maskL w.toInt64 2147483647 31 (by decide) (by decide)
  generalize hz : (w.toInt64 &&& (2147483647 : Int64)) = z at *
  have hz0 : 0 ≤ z.toInt ∧ z.toInt ≤ 2147483647 := by omega
  have hm : (z % y).toInt = z.toInt % y.toInt := by rw [Int64.toInt_mod]; exact (tr _ _).1 hz0.1
  have hl := c_l2i (z % y)
  have rl := rng32 (z % y).toInt32
  have m1 := Int.emod_nonneg z.toInt (b := y.toInt) (by omega)
  have m2 := Int.emod_lt_of_pos z.toInt (b := y.toInt) (by omega)
  have m3 : z.toInt % y.toInt ≤ z.toInt := by
    by_cases q : z.toInt < y.toInt
    · rw [Int.emod_eq_of_lt hz0.1 q]; exact Int.le_refl _
    · omega
  omega
theorem own_bc {P Q : Prop} [Decidable P] [Decidable Q] (h : P ↔ Q) : own_b P = own_b Q := by
  by_cases q : P
  · rw [own_b_t q, own_b_t (h.mp q)]
  · rw [own_b_f q, own_b_f (fun z => q (h.mpr z))]
theorem own_cov1 {x p : Int32} {wd : Int32} {dx : Int64} (h0 : 0 ≤ wd.toInt ∧ x.toInt + wd.toInt ≤ 2147483647) (hd : dx = ((p.toInt64) - (x.toInt64))) : (¬ (p < x) ↔ ¬ (dx < (0 : Int64))) ∧ (p < (x + wd) ↔ dx < (wd.toInt64)) := by
  have h1 := c_lsub p.toInt64 x.toInt64
  have h2 := c_i2l p
  have h3 := c_i2l x
  have h4 := c_i2l wd
  have h5 := c_iadd x wd
  have r1 := rng32 p
  have r2 := rng32 x
  have r3 := rng32 (x + wd)
  have r4 := rng64 (p.toInt64 - x.toInt64)
  have e0 : (0 : Int64).toInt = 0 := by decide
  rw [← hd] at h1 r4
  rw [Int32.lt_iff_toInt_lt, Int32.lt_iff_toInt_lt, Int64.lt_iff_toInt_lt, Int64.lt_iff_toInt_lt]
  omega
theorem own_cov {x y w h px py wd hg : Int32} {dx dy : Int64} (hw : wd = (own_fit x w)) (hh : hg = (own_fit y h)) (hx : dx = ((px.toInt64) - (x.toInt64))) (hy : dy = ((py.toInt64) - (y.toInt64))) : (own_b (¬ (px < x) ∧ px < (x + wd) ∧ ¬ (py < y) ∧ py < (y + hg))) = (own_b ((¬ (dx < (0 : Int64)) ∧ dx < (wd.toInt64)) ∧ (¬ (dy < (0 : Int64)) ∧ dy < (hg.toInt64)))) := by
  have a1 := own_cov1 (hw ▸ own_fitr x w) hx
  have a2 := own_cov1 (hh ▸ own_fitr y h) hy
  refine own_bc ?_
  rw [a1.1, a1.2, a2.1, a2.2]
  exact ⟨fun ⟨q1, q2, q3, q4⟩ => ⟨⟨q1, q2⟩, q3, q4⟩, fun ⟨⟨q1, q2⟩, q3, q4⟩ => ⟨q1, q2, q3, q4⟩⟩
theorem pn0 : plainName "java/lang/Record" = true := by first | (simp [plainName, overriddenIn]; done) | decide +kernel
theorem d3_0 : decode jdk_30_method_1_code 0 = .ok (.aload_n 0, 1) := by decide +kernel
theorem d3_1 : decode jdk_30_method_1_code 1 = .ok (.invokespecial 1, 3) := by decide +kernel
theorem d3_4 : decode jdk_30_method_1_code 4 = .ok (.return_, 1) := by decide +kernel
theorem ef3 (m : MethodId) (a1 : Addr) : entryFrame m #[(.ref a1)] 1 = mkF m 0 #[.val (.ref a1)] [] := by first | (simp [entryFrame, mkF, argsToLocals, Value.category]; done) | rfl
def Q3 (Z : State) (a1 : Addr) (h0 : Heap) (n0 : Nat) (v : Option Value) (h : Heap) (L : List Loc) : Prop := v = none ∧ Fr n0 L ∧ h = h0
set_option maxRecDepth 65536 in
set_option maxHeartbeats 40000000 in
theorem rm3 (l : Launch) (Z : State) (a0 : Array Value) (hw : ∀ d ∈ tables_1, d.before a0 Z = true) (ws : List Jvm.Cond) (a1 : Addr) (h0 : Heap) (n0 : Nat) (Z0 : n0 ≤ h0.size) :
    MetFree l (⟨"java/lang/Record", "<init>", "()V"⟩ : MethodName) (head1 (Jvm.Cond.code (⟨"java/lang/Record", "<init>", "()V"⟩ : MethodName) jdk_30_method_1_code 1 none :: ws) ({ frames := 1, cells := 0, slots := 0, locals := 12 } : Room)) (fun a U => a = #[(.ref a1)] ∧ Z.Warmed39 U.vm ∧ U.heap = h0) (fun _ _ _ _ _ => True) (fun _ U o U' => ∃ v L, o = .returned v ∧ Q3 Z a1 h0 n0 v U'.heap L ∧ FrameEnd U o U' L ({ frames := 1, cells := 0, slots := 0, locals := 12 } : Room).cells ({ frames := 1, cells := 0, slots := 0, locals := 12 } : Room).slots) := by
  refine MetFree.of_bodySF (plainFor_of_name pn0) hisR ?_
  intro p e s m args below meth c s₁ Bd hml0 hP hK
  obtain ⟨rfl, hZ, hh⟩ := hP
  have hx := Bd.exec
  have hby := Bd.bytes
  have hml : c.maxLocals = 1 := hml0
  have hown : s.vm.findClass "java/lang/Record" = some m.cls := findClass_of_methodNamed Bd.named
  have hnm := (name_of_methodNamed Bd.named Bd.method).1
  have X0 : Stand p l e ({ frames := 1, cells := 0, slots := 0, locals := 12 } : Room) s m #[(.ref a1)] below meth c s₁ [] 0 0 := Stand.of_body Bd
  have e0 : s₁.heap = h0 := by rw [← hh, Bd.state]; rfl
  have N0 := Fr.nil n0
  have pre0 : ∀ t, Steps p.tables e below (s₁.setTop (mkF m 0 #[.val (.ref a1)] [])) t → Steps p.tables e below (s₁.setTop (entryFrame m #[(.ref a1)] 1)) t := fun t k => castTop (ef3 m a1) k
  obtain ⟨T1, X1, e1, st1⟩ := initO X0 hx hZ hown (ow hw 25 rfl) (ow hw 26 rfl) (ow hw 27 rfl) e0 (g := (mkF m 1 #[.val (.ref a1)] [(.ref a1)])) rfl (by rw [hml]; rfl) rfl (hb hby d3_1) (by decide) (W := 0) (by show 2 * 0 + _ ≤ _; exact Nat.le_of_eq rfl) (by decide)
  obtain ⟨fs, hr, hrun, hended, hW, hsame⟩ := X1.leave (v := none) (fun _ => rfl)
  refine ⟨_, _, pre0 _ ?_, hrun, hended, _, _, rfl, ?_, ⟨_, rfl⟩, hW, hsame.mono (by decide) (by decide)⟩
  · show Steps p.tables e below (s₁.setTop (mkF m 0 #[.val (.ref a1)] [])) _
    refine XS.aloadN X0.here hx rfl (hb hby d3_0) rfl rfl ?_
    show Steps p.tables e below (s₁.setTop (mkF m 1 #[.val (.ref a1)] [(.ref a1)])) _
    refine st1 _ ?_
    show Steps p.tables e below (T1.setTop (mkF m 4 #[.val (.ref a1)] [])) _
    exact X1.returnOut hx Bd.returns (hb hby d3_4) hr
  · show Q3 Z a1 h0 n0 _ T1.heap _
    rw [e1]
    exact ⟨rfl, N0, rfl⟩
theorem pn1 : plainName "com/example/tackboard/tackboard/core/NoteCoversPinLaw" = true := by first | (simp [plainName, overriddenIn]; done) | decide +kernel
theorem d1_0 : decode method_2_code 0 = .ok (.ldc2_w 9, 3) := by decide +kernel
theorem d1_3 : decode method_2_code 3 = .ok (.iload_n 0, 1) := by decide +kernel
theorem d1_4 : decode method_2_code 4 = .ok (.i2l, 1) := by decide +kernel
theorem d1_5 : decode method_2_code 5 = .ok (.lsub, 1) := by decide +kernel
theorem d1_6 : decode method_2_code 6 = .ok (.lconst 1, 1) := by decide +kernel
theorem d1_7 : decode method_2_code 7 = .ok (.ladd, 1) := by decide +kernel
theorem d1_8 : decode method_2_code 8 = .ok (.lstore_n 2, 1) := by decide +kernel
theorem d1_9 : decode method_2_code 9 = .ok (.iload_n 1, 1) := by decide +kernel
theorem d1_10 : decode method_2_code 10 = .ok (.i2l, 1) := by decide +kernel
theorem d1_11 : decode method_2_code 11 = .ok (.ldc2_w 9, 3) := by decide +kernel
theorem d1_14 : decode method_2_code 14 = .ok (.land, 1) := by decide +kernel
theorem d1_15 : decode method_2_code 15 = .ok (.lload_n 2, 1) := by decide +kernel
theorem d1_16 : decode method_2_code 16 = .ok (.lrem, 1) := by decide +kernel
theorem d1_17 : decode method_2_code 17 = .ok (.l2i, 1) := by decide +kernel
theorem d1_18 : decode method_2_code 18 = .ok (.ireturn, 1) := by decide +kernel
theorem ef1 (m : MethodId) (p1 : Int32) (p2 : Int32) : entryFrame m #[(.int p1), (.int p2)] 4 = mkF m 0 #[.val (.int p1), .val (.int p2), .unset, .unset] [] := by first | (simp [entryFrame, mkF, argsToLocals, Value.category]; done) | rfl
def Q1 (Z : State) (p1 : Int32) (p2 : Int32) (h0 : Heap) (n0 : Nat) (v : Option Value) (h : Heap) (L : List Loc) : Prop := v = some (.int (own_fit p1 p2)) ∧ Fr n0 L ∧ h = h0
set_option maxRecDepth 65536 in
set_option maxHeartbeats 40000000 in
theorem rm1 (l : Launch) (Z : State) (a0 : Array Value) (hw : ∀ d ∈ tables_1, d.before a0 Z = true) (ws : List Jvm.Cond) (p1 : Int32) (p2 : Int32) (h0 : Heap) (n0 : Nat) (Z0 : n0 ≤ h0.size) :
    MetFree l (⟨"com/example/tackboard/tackboard/core/NoteCoversPinLaw", "fit", "(II)I"⟩ : MethodName) (head1 (Jvm.Cond.code (⟨"com/example/tackboard/tackboard/core/NoteCoversPinLaw", "fit", "(II)I"⟩ : MethodName) method_2_code 4 (some .int) :: ws) ({ frames := 0, cells := 0, slots := 0, locals := 0 } : Room)) (fun a U => a = #[(.int p1), (.int p2)] ∧ Z.Warmed39 U.vm ∧ U.heap = h0) (fun _ _ _ _ _ => True) (fun _ U o U' => ∃ v L, o = .returned v ∧ Q1 Z p1 p2 h0 n0 v U'.heap L ∧ FrameEnd U o U' L ({ frames := 0, cells := 0, slots := 0, locals := 0 } : Room).cells ({ frames := 0, cells := 0, slots := 0, locals := 0 } : Room).slots) := by
  refine MetFree.of_bodySF (plainFor_of_name pn1) hisR ?_
  intro p e s m args below meth c s₁ Bd hml0 hP hK
  obtain ⟨rfl, hZ, hh⟩ := hP
  have hx := Bd.exec
  have hby := Bd.bytes
  have hml : c.maxLocals = 4 := hml0
  have hown : s.vm.findClass "com/example/tackboard/tackboard/core/NoteCoversPinLaw" = some m.cls := findClass_of_methodNamed Bd.named
  have hnm := (name_of_methodNamed Bd.named Bd.method).1
  have X0 : Stand p l e ({ frames := 0, cells := 0, slots := 0, locals := 0 } : Room) s m #[(.int p1), (.int p2)] below meth c s₁ [] 0 0 := Stand.of_body Bd
  have e0 : s₁.heap = h0 := by rw [← hh, Bd.state]; rfl
  have N0 := Fr.nil n0
  have pre0 : ∀ t, Steps p.tables e below (s₁.setTop (mkF m 0 #[.val (.int p1), .val (.int p2), .unset, .unset] [])) t → Steps p.tables e below (s₁.setTop (entryFrame m #[(.int p1), (.int p2)] 4)) t := fun t k => castTop (ef1 m p1 p2) k
  obtain ⟨fs, hr, hrun, hended, hW, hsame⟩ := X0.leave (v := some (.int ((((p2.toInt64) &&& (2147483647 : Int64)) - (((p2.toInt64) &&& (2147483647 : Int64)) / (((2147483647 : Int64) - (p1.toInt64)) + (1 : Int64))) * (((2147483647 : Int64) - (p1.toInt64)) + (1 : Int64))).toInt32))) (fun h => by rw [Bd.returns] at h; cases h)
  refine ⟨_, _, pre0 _ ?_, hrun, hended, _, _, rfl, ?_, ⟨_, rfl⟩, hW, hsame.mono (by decide) (by decide)⟩
  · show Steps p.tables e below (s₁.setTop (mkF m 0 #[.val (.int p1), .val (.int p2), .unset, .unset] [])) _
    refine X0.ldc2Long hx hown (mvT hZ (ow hw 4 rfl)) (g := (mkF m 0 #[.val (.int p1), .val (.int p2), .unset, .unset] [])) rfl (hb hby d1_0) _ ?_
    show Steps p.tables e below (s₁.setTop (mkF m 3 #[.val (.int p1), .val (.int p2), .unset, .unset] [(.long (2147483647 : Int64))])) _
    refine XS.iloadN X0.here hx rfl (hb hby d1_3) rfl  ?_
    show Steps p.tables e below (s₁.setTop (mkF m 4 #[.val (.int p1), .val (.int p2), .unset, .unset] [(.int p1), (.long (2147483647 : Int64))])) _
    refine XS.i2l X0.here hx rfl (hb hby d1_4) rfl ?_
    show Steps p.tables e below (s₁.setTop (mkF m 5 #[.val (.int p1), .val (.int p2), .unset, .unset] [(.long (p1.toInt64)), (.long (2147483647 : Int64))])) _
    refine XS.lsub X0.here hx rfl (hb hby d1_5) rfl ?_
    show Steps p.tables e below (s₁.setTop (mkF m 6 #[.val (.int p1), .val (.int p2), .unset, .unset] [(.long ((2147483647 : Int64) - (p1.toInt64)))])) _
    refine XS.lconst X0.here hx rfl (hb hby d1_6) ?_
    show Steps p.tables e below (s₁.setTop (mkF m 7 #[.val (.int p1), .val (.int p2), .unset, .unset] [(.long (1 : Int64)), (.long ((2147483647 : Int64) - (p1.toInt64)))])) _
    refine XS.ladd X0.here hx rfl (hb hby d1_7) rfl ?_
    show Steps p.tables e below (s₁.setTop (mkF m 8 #[.val (.int p1), .val (.int p2), .unset, .unset] [(.long (((2147483647 : Int64) - (p1.toInt64)) + (1 : Int64)))])) _
    refine XS.lstoreN X0.here hx rfl (hb hby d1_8) rfl (l' := #[.val (.int p1), .val (.int p2), .val (.long (((2147483647 : Int64) - (p1.toInt64)) + (1 : Int64))), .second]) rfl ?_
    show Steps p.tables e below (s₁.setTop (mkF m 9 #[.val (.int p1), .val (.int p2), .val (.long (((2147483647 : Int64) - (p1.toInt64)) + (1 : Int64))), .second] [])) _
    refine XS.iloadN X0.here hx rfl (hb hby d1_9) rfl  ?_
    show Steps p.tables e below (s₁.setTop (mkF m 10 #[.val (.int p1), .val (.int p2), .val (.long (((2147483647 : Int64) - (p1.toInt64)) + (1 : Int64))), .second] [(.int p2)])) _
    refine XS.i2l X0.here hx rfl (hb hby d1_10) rfl ?_
    show Steps p.tables e below (s₁.setTop (mkF m 11 #[.val (.int p1), .val (.int p2), .val (.long (((2147483647 : Int64) - (p1.toInt64)) + (1 : Int64))), .second] [(.long (p2.toInt64))])) _
    refine X0.ldc2Long hx hown (mvT hZ (ow hw 4 rfl)) (g := (mkF m 11 #[.val (.int p1), .val (.int p2), .val (.long (((2147483647 : Int64) - (p1.toInt64)) + (1 : Int64))), .second] [(.long (p2.toInt64))])) rfl (hb hby d1_11) _ ?_
    show Steps p.tables e below (s₁.setTop (mkF m 14 #[.val (.int p1), .val (.int p2), .val (.long (((2147483647 : Int64) - (p1.toInt64)) + (1 : Int64))), .second] [(.long (2147483647 : Int64)), (.long (p2.toInt64))])) _
    refine XS.land X0.here hx rfl (hb hby d1_14) rfl ?_
    show Steps p.tables e below (s₁.setTop (mkF m 15 #[.val (.int p1), .val (.int p2), .val (.long (((2147483647 : Int64) - (p1.toInt64)) + (1 : Int64))), .second] [(.long ((p2.toInt64) &&& (2147483647 : Int64)))])) _
    refine XS.lloadN X0.here hx rfl (hb hby d1_15) rfl  ?_
    show Steps p.tables e below (s₁.setTop (mkF m 16 #[.val (.int p1), .val (.int p2), .val (.long (((2147483647 : Int64) - (p1.toInt64)) + (1 : Int64))), .second] [(.long (((2147483647 : Int64) - (p1.toInt64)) + (1 : Int64))), (.long ((p2.toInt64) &&& (2147483647 : Int64)))])) _
    refine XS.lrem X0.here hx rfl (hb hby d1_16) rfl (own_fnz p1) ?_
    show Steps p.tables e below (s₁.setTop (mkF m 17 #[.val (.int p1), .val (.int p2), .val (.long (((2147483647 : Int64) - (p1.toInt64)) + (1 : Int64))), .second] [(.long (((p2.toInt64) &&& (2147483647 : Int64)) - (((p2.toInt64) &&& (2147483647 : Int64)) / (((2147483647 : Int64) - (p1.toInt64)) + (1 : Int64))) * (((2147483647 : Int64) - (p1.toInt64)) + (1 : Int64))))])) _
    refine XS.l2i X0.here hx rfl (hb hby d1_17) rfl ?_
    show Steps p.tables e below (s₁.setTop (mkF m 18 #[.val (.int p1), .val (.int p2), .val (.long (((2147483647 : Int64) - (p1.toInt64)) + (1 : Int64))), .second] [(.int ((((p2.toInt64) &&& (2147483647 : Int64)) - (((p2.toInt64) &&& (2147483647 : Int64)) / (((2147483647 : Int64) - (p1.toInt64)) + (1 : Int64))) * (((2147483647 : Int64) - (p1.toInt64)) + (1 : Int64))).toInt32))])) _
    exact retI X0 hx Bd.returns (hb hby d1_18) hr
  · show Q1 Z p1 p2 h0 n0 _ s₁.heap _
    rw [e0]
    exact ⟨(congrArg (fun z => some (Value.int z)) (by first | rfl | (simp only [own_b, own_fit]; done) | (simp [own_b, own_fit]; done))), N0, rfl⟩
theorem pn2 : plainName "com/example/tackboard/tackboard/core/Note" = true := by first | (simp [plainName, overriddenIn]; done) | decide +kernel
theorem d2_0 : decode prog_29_method_1_code 0 = .ok (.aload_n 0, 1) := by decide +kernel
theorem d2_1 : decode prog_29_method_1_code 1 = .ok (.invokespecial 1, 3) := by decide +kernel
theorem pd3 : parseMethodDescriptor "()V" = some ⟨[], none⟩ := by decide +kernel
theorem d2_4 : decode prog_29_method_1_code 4 = .ok (.aload_n 0, 1) := by decide +kernel
theorem d2_5 : decode prog_29_method_1_code 5 = .ok (.lload_n 1, 1) := by decide +kernel
theorem d2_6 : decode prog_29_method_1_code 6 = .ok (.putfield 7, 3) := by decide +kernel
theorem d2_9 : decode prog_29_method_1_code 9 = .ok (.aload_n 0, 1) := by decide +kernel
theorem d2_10 : decode prog_29_method_1_code 10 = .ok (.iload_n 3, 1) := by decide +kernel
theorem d2_11 : decode prog_29_method_1_code 11 = .ok (.putfield 13, 3) := by decide +kernel
theorem d2_14 : decode prog_29_method_1_code 14 = .ok (.aload_n 0, 1) := by decide +kernel
theorem d2_15 : decode prog_29_method_1_code 15 = .ok (.iload 4, 2) := by decide +kernel
theorem d2_17 : decode prog_29_method_1_code 17 = .ok (.putfield 17, 3) := by decide +kernel
theorem d2_20 : decode prog_29_method_1_code 20 = .ok (.aload_n 0, 1) := by decide +kernel
theorem d2_21 : decode prog_29_method_1_code 21 = .ok (.iload 5, 2) := by decide +kernel
theorem d2_23 : decode prog_29_method_1_code 23 = .ok (.putfield 20, 3) := by decide +kernel
theorem d2_26 : decode prog_29_method_1_code 26 = .ok (.aload_n 0, 1) := by decide +kernel
theorem d2_27 : decode prog_29_method_1_code 27 = .ok (.iload 6, 2) := by decide +kernel
theorem d2_29 : decode prog_29_method_1_code 29 = .ok (.putfield 23, 3) := by decide +kernel
theorem d2_32 : decode prog_29_method_1_code 32 = .ok (.aload_n 0, 1) := by decide +kernel
theorem d2_33 : decode prog_29_method_1_code 33 = .ok (.aload 7, 2) := by decide +kernel
theorem d2_35 : decode prog_29_method_1_code 35 = .ok (.putfield 26, 3) := by decide +kernel
theorem d2_38 : decode prog_29_method_1_code 38 = .ok (.aload_n 0, 1) := by decide +kernel
theorem d2_39 : decode prog_29_method_1_code 39 = .ok (.iload 8, 2) := by decide +kernel
theorem d2_41 : decode prog_29_method_1_code 41 = .ok (.putfield 30, 3) := by decide +kernel
theorem d2_44 : decode prog_29_method_1_code 44 = .ok (.aload_n 0, 1) := by decide +kernel
theorem d2_45 : decode prog_29_method_1_code 45 = .ok (.aload 9, 2) := by decide +kernel
theorem d2_47 : decode prog_29_method_1_code 47 = .ok (.putfield 34, 3) := by decide +kernel
theorem d2_50 : decode prog_29_method_1_code 50 = .ok (.return_, 1) := by decide +kernel
theorem ef2 (m : MethodId) (r : Addr) (q1 : Int64) (p1 : Int32) (p2 : Int32) (p3 : Int32) (p4 : Int32) (a1 : Addr) (a2 : Addr) : entryFrame m #[(.ref r), (.long q1), (.int p1), (.int p2), (.int p3), (.int p4), (.ref a1), (.int (0 : Int32)), (.ref a2)] 10 = mkF m 0 #[.val (.ref r), .val (.long q1), .second, .val (.int p1), .val (.int p2), .val (.int p3), .val (.int p4), .val (.ref a1), .val (.int (0 : Int32)), .val (.ref a2)] [] := by first | (simp [entryFrame, mkF, argsToLocals, Value.category]; done) | rfl
def Q2 (Z : State) (r : Addr) (q1 : Int64) (p1 : Int32) (p2 : Int32) (p3 : Int32) (p4 : Int32) (a1 : Addr) (a2 : Addr) (u0 : Value) (u1 : Value) (u2 : Value) (u3 : Value) (u4 : Value) (u5 : Value) (u6 : Value) (u7 : Value) (h0 : Heap) (n0 : Nat) (v : Option Value) (h : Heap) (L : List Loc) : Prop := v = none ∧ Fr n0 L ∧ Keep h0 h [r] ∧ Exa Z h r oN ∧ Fld Z h r oN "id" "J" (.long q1) ∧ Fld Z h r oN "x" "I" (.int p1) ∧ Fld Z h r oN "y" "I" (.int p2) ∧ Fld Z h r oN "width" "I" (.int p3) ∧ Fld Z h r oN "height" "I" (.int p4)
set_option maxRecDepth 65536 in
set_option maxHeartbeats 40000000 in
theorem rm2 (l : Launch) (Z : State) (a0 : Array Value) (hw : ∀ d ∈ tables_1, d.before a0 Z = true) (ws : List Jvm.Cond) (r : Addr) (q1 : Int64) (p1 : Int32) (p2 : Int32) (p3 : Int32) (p4 : Int32) (a1 : Addr) (a2 : Addr) (u0 : Value) (u1 : Value) (u2 : Value) (u3 : Value) (u4 : Value) (u5 : Value) (u6 : Value) (u7 : Value) (h0 : Heap) (n0 : Nat) (Z0 : n0 ≤ h0.size) (E1 : Exa Z h0 r oN) (F0 : Fld Z h0 r oN "id" "J" u0) (F1 : Fld Z h0 r oN "x" "I" u1) (F2 : Fld Z h0 r oN "y" "I" u2) (F3 : Fld Z h0 r oN "width" "I" u3) (F4 : Fld Z h0 r oN "height" "I" u4) (F5 : Fld Z h0 r oN "color" "Ljava/lang/String;" u5) (F6 : Fld Z h0 r oN "pinned" "Z" u6) (F7 : Fld Z h0 r oN "message" "Ljava/lang/String;" u7) (g1 : n0 ≤ r) :
    MetFree l (⟨oN, "<init>", "(JIIIILjava/lang/String;ZLjava/lang/String;)V"⟩ : MethodName) (head1 (Jvm.Cond.code (⟨oN, "<init>", "(JIIIILjava/lang/String;ZLjava/lang/String;)V"⟩ : MethodName) prog_29_method_1_code 10 none :: ws) ({ frames := 2, cells := 0, slots := 0, locals := 24 } : Room)) (fun a U => a = #[(.ref r), (.long q1), (.int p1), (.int p2), (.int p3), (.int p4), (.ref a1), (.int (0 : Int32)), (.ref a2)] ∧ Z.Warmed39 U.vm ∧ U.heap = h0) (fun _ _ _ _ _ => True) (fun _ U o U' => ∃ v L, o = .returned v ∧ Q2 Z r q1 p1 p2 p3 p4 a1 a2 u0 u1 u2 u3 u4 u5 u6 u7 h0 n0 v U'.heap L ∧ FrameEnd U o U' L ({ frames := 2, cells := 0, slots := 0, locals := 24 } : Room).cells ({ frames := 2, cells := 0, slots := 0, locals := 24 } : Room).slots) := by
  refine MetFree.of_bodySF (plainFor_of_name pn2) hisR ?_
  intro p e s m args below meth c s₁ Bd hml0 hP hK
  obtain ⟨rfl, hZ, hh⟩ := hP
  have hx := Bd.exec
  have hby := Bd.bytes
  have hml : c.maxLocals = 10 := hml0
  have hown : s.vm.findClass oN = some m.cls := findClass_of_methodNamed Bd.named
  have hnm := (name_of_methodNamed Bd.named Bd.method).1
  have X0 : Stand p l e ({ frames := 2, cells := 0, slots := 0, locals := 24 } : Room) s m #[(.ref r), (.long q1), (.int p1), (.int p2), (.int p3), (.int p4), (.ref a1), (.int (0 : Int32)), (.ref a2)] below meth c s₁ [] 0 0 := Stand.of_body Bd
  have e0 : s₁.heap = h0 := by rw [← hh, Bd.state]; rfl
  have N0 := Fr.nil n0
  have pre0 : ∀ t, Steps p.tables e below (s₁.setTop (mkF m 0 #[.val (.ref r), .val (.long q1), .second, .val (.int p1), .val (.int p2), .val (.int p3), .val (.int p4), .val (.ref a1), .val (.int (0 : Int32)), .val (.ref a2)] [])) t → Steps p.tables e below (s₁.setTop (entryFrame m #[(.ref r), (.long q1), (.int p1), (.int p2), (.int p3), (.int p4), (.ref a1), (.int (0 : Int32)), (.ref a2)] 10)) t := fun t k => castTop (ef2 m r q1 p1 p2 p3 p4 a1 a2) k
  obtain ⟨_, _, ⟨T1, L1, k1, n1⟩, -, X1, ⟨Lc1, hQ1, l1, y1, z1⟩, st1⟩ := X0.specialBack hx (y := (⟨"java/lang/Record", "<init>", "()V"⟩ : MethodName)) rfl hown (mvT hZ (ow hw 20 rfl)) (mvT hZ (ow hw 21 rfl)) (mvT hZ (ow hw 24 rfl)) (by decide) (backOf (W := 0) (rm3 l Z a0 hw [] r h0 n0 Z0 ) hZ (ow hw 24 rfl) (ow hw 23 rfl) (by decide) (by decide)) (g := (mkF m 1 #[.val (.ref r), .val (.long q1), .second, .val (.int p1), .val (.int p2), .val (.int p3), .val (.int p4), .val (.ref a1), .val (.int (0 : Int32)), .val (.ref a2)] [(.ref r)])) rfl (by rw [hml]; rfl) (Steps.refl _) (a := r) (argsL := []) (rest := []) (lenOf pd3 rfl) rfl (by show 2 * 0 + _ ≤ _; exact Nat.le_of_eq rfl) (hb hby d2_1) (fun _ _ => ⟨rfl, e0, (by decide : 0 + 0 ≤ _), (by decide : 0 + 0 ≤ _)⟩)
  dsimp only [Pt.U, Pt.locs, Pt.cells, Pt.slots] at X1 l1 y1 z1 st1 hQ1
  subst l1 y1 z1
  obtain ⟨rfl, N1q, e1⟩ := hQ1
  have N1 := Fr.app N0 N1q
  obtain ⟨T2, h2, X2, e2, W2, st2⟩ := putF X1 hx hZ hown (host := "") (Or.inl (ow hw 28 rfl)) Via.refl e1 F0 E1 (Or.inr ⟨(ow hw 29 rfl), rfl, hnm⟩) (ow hw 6 rfl) (ty := .long) (by decide) rfl rfl (g := (mkF m 6 #[.val (.ref r), .val (.long q1), .second, .val (.int p1), .val (.int p2), .val (.int p3), .val (.int p4), .val (.ref a1), .val (.int (0 : Int32)), .val (.ref a2)] [(.long q1), (.ref r)])) rfl rfl (hb hby d2_6)
  have fw2 : Fld Z h2 r oN "id" "J" (.long q1) := F0.same W2
  have Z3 : n0 ≤ h2.size := Nat.le_trans Z0 (Nat.le_of_eq W2.size.symm)
  have K4 : Keep h0 h2 [r] := (Keep.refl h0 [r]).wr W2 (Or.inl (List.mem_of_getElem? (i := 0) rfl))
  have N2 := Fr.snoc X2 N1 g1
  have fa5 : Fld Z h2 r oN "x" "I" u1 := (F1.other W2 (Or.inr (slot_ne (Or.inr (ow hw 31 rfl)) (Or.inr (ow hw 29 rfl)) (by decide) (t := .int) (t' := .long) (by decide) (by decide))))
  have fa6 : Exa Z h2 r oN := (E1.wr W2)
  obtain ⟨T7, h7, X7, e7, W7, st7⟩ := putF X2 hx hZ hown (host := "") (Or.inl (ow hw 30 rfl)) Via.refl e2 fa5 fa6 (Or.inr ⟨(ow hw 31 rfl), rfl, hnm⟩) (ow hw 6 rfl) (ty := .int) (by decide) rfl rfl (g := (mkF m 11 #[.val (.ref r), .val (.long q1), .second, .val (.int p1), .val (.int p2), .val (.int p3), .val (.int p4), .val (.ref a1), .val (.int (0 : Int32)), .val (.ref a2)] [(.int p1), (.ref r)])) rfl rfl (hb hby d2_11)
  have fw7 : Fld Z h7 r oN "x" "I" (.int p1) := fa5.same W7
  have Z8 : n0 ≤ h7.size := Nat.le_trans Z3 (Nat.le_of_eq W7.size.symm)
  have K9 : Keep h0 h7 [r] := K4.wr W7 (Or.inl (List.mem_of_getElem? (i := 0) rfl))
  have N7 := Fr.snoc X7 N2 g1
  have fa10 : Fld Z h7 r oN "y" "I" u2 := ((F2.other W2 (Or.inr (slot_ne (Or.inr (ow hw 33 rfl)) (Or.inr (ow hw 29 rfl)) (by decide) (t := .int) (t' := .long) (by decide) (by decide)))).other W7 (Or.inr (slot_ne (Or.inr (ow hw 33 rfl)) (Or.inr (ow hw 31 rfl)) (by decide) (t := .int) (t' := .int) (by decide) (by decide))))
  have fa11 : Exa Z h7 r oN := (fa6.wr W7)
  obtain ⟨T12, h12, X12, e12, W12, st12⟩ := putF X7 hx hZ hown (host := "") (Or.inl (ow hw 32 rfl)) Via.refl e7 fa10 fa11 (Or.inr ⟨(ow hw 33 rfl), rfl, hnm⟩) (ow hw 6 rfl) (ty := .int) (by decide) rfl rfl (g := (mkF m 17 #[.val (.ref r), .val (.long q1), .second, .val (.int p1), .val (.int p2), .val (.int p3), .val (.int p4), .val (.ref a1), .val (.int (0 : Int32)), .val (.ref a2)] [(.int p2), (.ref r)])) rfl rfl (hb hby d2_17)
  have fw12 : Fld Z h12 r oN "y" "I" (.int p2) := fa10.same W12
  have Z13 : n0 ≤ h12.size := Nat.le_trans Z8 (Nat.le_of_eq W12.size.symm)
  have K14 : Keep h0 h12 [r] := K9.wr W12 (Or.inl (List.mem_of_getElem? (i := 0) rfl))
  have N12 := Fr.snoc X12 N7 g1
  have fa15 : Fld Z h12 r oN "width" "I" u3 := (((F3.other W2 (Or.inr (slot_ne (Or.inr (ow hw 35 rfl)) (Or.inr (ow hw 29 rfl)) (by decide) (t := .int) (t' := .long) (by decide) (by decide)))).other W7 (Or.inr (slot_ne (Or.inr (ow hw 35 rfl)) (Or.inr (ow hw 31 rfl)) (by decide) (t := .int) (t' := .int) (by decide) (by decide)))).other W12 (Or.inr (slot_ne (Or.inr (ow hw 35 rfl)) (Or.inr (ow hw 33 rfl)) (by decide) (t := .int) (t' := .int) (by decide) (by decide))))
  have fa16 : Exa Z h12 r oN := (fa11.wr W12)
  obtain ⟨T17, h17, X17, e17, W17, st17⟩ := putF X12 hx hZ hown (host := "") (Or.inl (ow hw 34 rfl)) Via.refl e12 fa15 fa16 (Or.inr ⟨(ow hw 35 rfl), rfl, hnm⟩) (ow hw 6 rfl) (ty := .int) (by decide) rfl rfl (g := (mkF m 23 #[.val (.ref r), .val (.long q1), .second, .val (.int p1), .val (.int p2), .val (.int p3), .val (.int p4), .val (.ref a1), .val (.int (0 : Int32)), .val (.ref a2)] [(.int p3), (.ref r)])) rfl rfl (hb hby d2_23)
  have fw17 : Fld Z h17 r oN "width" "I" (.int p3) := fa15.same W17
  have Z18 : n0 ≤ h17.size := Nat.le_trans Z13 (Nat.le_of_eq W17.size.symm)
  have K19 : Keep h0 h17 [r] := K14.wr W17 (Or.inl (List.mem_of_getElem? (i := 0) rfl))
  have N17 := Fr.snoc X17 N12 g1
  have fa20 : Fld Z h17 r oN "height" "I" u4 := ((((F4.other W2 (Or.inr (slot_ne (Or.inr (ow hw 37 rfl)) (Or.inr (ow hw 29 rfl)) (by decide) (t := .int) (t' := .long) (by decide) (by decide)))).other W7 (Or.inr (slot_ne (Or.inr (ow hw 37 rfl)) (Or.inr (ow hw 31 rfl)) (by decide) (t := .int) (t' := .int) (by decide) (by decide)))).other W12 (Or.inr (slot_ne (Or.inr (ow hw 37 rfl)) (Or.inr (ow hw 33 rfl)) (by decide) (t := .int) (t' := .int) (by decide) (by decide)))).other W17 (Or.inr (slot_ne (Or.inr (ow hw 37 rfl)) (Or.inr (ow hw 35 rfl)) (by decide) (t := .int) (t' := .int) (by decide) (by decide))))
  have fa21 : Exa Z h17 r oN := (fa16.wr W17)
  obtain ⟨T22, h22, X22, e22, W22, st22⟩ := putF X17 hx hZ hown (host := "") (Or.inl (ow hw 36 rfl)) Via.refl e17 fa20 fa21 (Or.inr ⟨(ow hw 37 rfl), rfl, hnm⟩) (ow hw 6 rfl) (ty := .int) (by decide) rfl rfl (g := (mkF m 29 #[.val (.ref r), .val (.long q1), .second, .val (.int p1), .val (.int p2), .val (.int p3), .val (.int p4), .val (.ref a1), .val (.int (0 : Int32)), .val (.ref a2)] [(.int p4), (.ref r)])) rfl rfl (hb hby d2_29)
  have fw22 : Fld Z h22 r oN "height" "I" (.int p4) := fa20.same W22
  have Z23 : n0 ≤ h22.size := Nat.le_trans Z18 (Nat.le_of_eq W22.size.symm)
  have K24 : Keep h0 h22 [r] := K19.wr W22 (Or.inl (List.mem_of_getElem? (i := 0) rfl))
  have N22 := Fr.snoc X22 N17 g1
  have fa25 : Fld Z h22 r oN "color" "Ljava/lang/String;" u5 := (((((F5.other W2 (Or.inr (slot_ne (Or.inr (ow hw 39 rfl)) (Or.inr (ow hw 29 rfl)) (by decide) (t := (.object "java/lang/String")) (t' := .long) (by decide) (by decide)))).other W7 (Or.inr (slot_ne (Or.inr (ow hw 39 rfl)) (Or.inr (ow hw 31 rfl)) (by decide) (t := (.object "java/lang/String")) (t' := .int) (by decide) (by decide)))).other W12 (Or.inr (slot_ne (Or.inr (ow hw 39 rfl)) (Or.inr (ow hw 33 rfl)) (by decide) (t := (.object "java/lang/String")) (t' := .int) (by decide) (by decide)))).other W17 (Or.inr (slot_ne (Or.inr (ow hw 39 rfl)) (Or.inr (ow hw 35 rfl)) (by decide) (t := (.object "java/lang/String")) (t' := .int) (by decide) (by decide)))).other W22 (Or.inr (slot_ne (Or.inr (ow hw 39 rfl)) (Or.inr (ow hw 37 rfl)) (by decide) (t := (.object "java/lang/String")) (t' := .int) (by decide) (by decide))))
  have fa26 : Exa Z h22 r oN := (fa21.wr W22)
  obtain ⟨T27, h27, X27, e27, W27, st27⟩ := putF X22 hx hZ hown (host := "") (Or.inl (ow hw 38 rfl)) Via.refl e22 fa25 fa26 (Or.inr ⟨(ow hw 39 rfl), rfl, hnm⟩) (ow hw 6 rfl) (ty := (.object "java/lang/String")) (by decide) rfl rfl (g := (mkF m 35 #[.val (.ref r), .val (.long q1), .second, .val (.int p1), .val (.int p2), .val (.int p3), .val (.int p4), .val (.ref a1), .val (.int (0 : Int32)), .val (.ref a2)] [(.ref a1), (.ref r)])) rfl rfl (hb hby d2_35)
  have fw27 : Fld Z h27 r oN "color" "Ljava/lang/String;" (.ref a1) := fa25.same W27
  have Z28 : n0 ≤ h27.size := Nat.le_trans Z23 (Nat.le_of_eq W27.size.symm)
  have K29 : Keep h0 h27 [r] := K24.wr W27 (Or.inl (List.mem_of_getElem? (i := 0) rfl))
  have N27 := Fr.snoc X27 N22 g1
  have fa30 : Fld Z h27 r oN "pinned" "Z" u6 := ((((((F6.other W2 (Or.inr (slot_ne (Or.inr (ow hw 41 rfl)) (Or.inr (ow hw 29 rfl)) (by decide) (t := .boolean) (t' := .long) (by decide) (by decide)))).other W7 (Or.inr (slot_ne (Or.inr (ow hw 41 rfl)) (Or.inr (ow hw 31 rfl)) (by decide) (t := .boolean) (t' := .int) (by decide) (by decide)))).other W12 (Or.inr (slot_ne (Or.inr (ow hw 41 rfl)) (Or.inr (ow hw 33 rfl)) (by decide) (t := .boolean) (t' := .int) (by decide) (by decide)))).other W17 (Or.inr (slot_ne (Or.inr (ow hw 41 rfl)) (Or.inr (ow hw 35 rfl)) (by decide) (t := .boolean) (t' := .int) (by decide) (by decide)))).other W22 (Or.inr (slot_ne (Or.inr (ow hw 41 rfl)) (Or.inr (ow hw 37 rfl)) (by decide) (t := .boolean) (t' := .int) (by decide) (by decide)))).other W27 (Or.inr (slot_ne (Or.inr (ow hw 41 rfl)) (Or.inr (ow hw 39 rfl)) (by decide) (t := .boolean) (t' := (.object "java/lang/String")) (by decide) (by decide))))
  have fa31 : Exa Z h27 r oN := (fa26.wr W27)
  obtain ⟨T32, h32, X32, e32, W32, st32⟩ := putFN X27 hx hZ hown (ow hw 40 rfl) Via.refl e27 fa30 fa31 (Or.inr ⟨(ow hw 41 rfl), rfl, hnm⟩) (ow hw 6 rfl) (ty := .boolean) (v' := (.int (0 : Int32))) (by decide) rfl (by decide) (g := (mkF m 41 #[.val (.ref r), .val (.long q1), .second, .val (.int p1), .val (.int p2), .val (.int p3), .val (.int p4), .val (.ref a1), .val (.int (0 : Int32)), .val (.ref a2)] [(.int (0 : Int32)), (.ref r)])) rfl rfl (hb hby d2_41)
  have fw32 : Fld Z h32 r oN "pinned" "Z" (.int (0 : Int32)) := fa30.same W32
  have Z33 : n0 ≤ h32.size := Nat.le_trans Z28 (Nat.le_of_eq W32.size.symm)
  have K34 : Keep h0 h32 [r] := K29.wr W32 (Or.inl (List.mem_of_getElem? (i := 0) rfl))
  have N32 := Fr.snoc X32 N27 g1
  have fa35 : Fld Z h32 r oN "message" "Ljava/lang/String;" u7 := (((((((F7.other W2 (Or.inr (slot_ne (Or.inr (ow hw 43 rfl)) (Or.inr (ow hw 29 rfl)) (by decide) (t := (.object "java/lang/String")) (t' := .long) (by decide) (by decide)))).other W7 (Or.inr (slot_ne (Or.inr (ow hw 43 rfl)) (Or.inr (ow hw 31 rfl)) (by decide) (t := (.object "java/lang/String")) (t' := .int) (by decide) (by decide)))).other W12 (Or.inr (slot_ne (Or.inr (ow hw 43 rfl)) (Or.inr (ow hw 33 rfl)) (by decide) (t := (.object "java/lang/String")) (t' := .int) (by decide) (by decide)))).other W17 (Or.inr (slot_ne (Or.inr (ow hw 43 rfl)) (Or.inr (ow hw 35 rfl)) (by decide) (t := (.object "java/lang/String")) (t' := .int) (by decide) (by decide)))).other W22 (Or.inr (slot_ne (Or.inr (ow hw 43 rfl)) (Or.inr (ow hw 37 rfl)) (by decide) (t := (.object "java/lang/String")) (t' := .int) (by decide) (by decide)))).other W27 (Or.inr (slot_ne (Or.inr (ow hw 43 rfl)) (Or.inr (ow hw 39 rfl)) (by decide) (t := (.object "java/lang/String")) (t' := (.object "java/lang/String")) (by decide) (by decide)))).other W32 (Or.inr (slot_ne (Or.inr (ow hw 43 rfl)) (Or.inr (ow hw 41 rfl)) (by decide) (t := (.object "java/lang/String")) (t' := .boolean) (by decide) (by decide))))
  have fa36 : Exa Z h32 r oN := (fa31.wr W32)
  obtain ⟨T37, h37, X37, e37, W37, st37⟩ := putF X32 hx hZ hown (host := "") (Or.inl (ow hw 42 rfl)) Via.refl e32 fa35 fa36 (Or.inr ⟨(ow hw 43 rfl), rfl, hnm⟩) (ow hw 6 rfl) (ty := (.object "java/lang/String")) (by decide) rfl rfl (g := (mkF m 47 #[.val (.ref r), .val (.long q1), .second, .val (.int p1), .val (.int p2), .val (.int p3), .val (.int p4), .val (.ref a1), .val (.int (0 : Int32)), .val (.ref a2)] [(.ref a2), (.ref r)])) rfl rfl (hb hby d2_47)
  have fw37 : Fld Z h37 r oN "message" "Ljava/lang/String;" (.ref a2) := fa35.same W37
  have Z38 : n0 ≤ h37.size := Nat.le_trans Z33 (Nat.le_of_eq W37.size.symm)
  have K39 : Keep h0 h37 [r] := K34.wr W37 (Or.inl (List.mem_of_getElem? (i := 0) rfl))
  have N37 := Fr.snoc X37 N32 g1
  obtain ⟨fs, hr, hrun, hended, hW, hsame⟩ := X37.leave (v := none) (fun _ => rfl)
  have fa40 : Exa Z h37 r oN := (fa36.wr W37)
  have fa41 : Fld Z h37 r oN "id" "J" (.long q1) := (((((((fw2.other W7 (Or.inr (slot_ne (Or.inr (ow hw 29 rfl)) (Or.inr (ow hw 31 rfl)) (by decide) (t := .long) (t' := .int) (by decide) (by decide)))).other W12 (Or.inr (slot_ne (Or.inr (ow hw 29 rfl)) (Or.inr (ow hw 33 rfl)) (by decide) (t := .long) (t' := .int) (by decide) (by decide)))).other W17 (Or.inr (slot_ne (Or.inr (ow hw 29 rfl)) (Or.inr (ow hw 35 rfl)) (by decide) (t := .long) (t' := .int) (by decide) (by decide)))).other W22 (Or.inr (slot_ne (Or.inr (ow hw 29 rfl)) (Or.inr (ow hw 37 rfl)) (by decide) (t := .long) (t' := .int) (by decide) (by decide)))).other W27 (Or.inr (slot_ne (Or.inr (ow hw 29 rfl)) (Or.inr (ow hw 39 rfl)) (by decide) (t := .long) (t' := (.object "java/lang/String")) (by decide) (by decide)))).other W32 (Or.inr (slot_ne (Or.inr (ow hw 29 rfl)) (Or.inr (ow hw 41 rfl)) (by decide) (t := .long) (t' := .boolean) (by decide) (by decide)))).other W37 (Or.inr (slot_ne (Or.inr (ow hw 29 rfl)) (Or.inr (ow hw 43 rfl)) (by decide) (t := .long) (t' := (.object "java/lang/String")) (by decide) (by decide))))
  have fa42 : Fld Z h37 r oN "x" "I" (.int p1) := ((((((fw7.other W12 (Or.inr (slot_ne (Or.inr (ow hw 31 rfl)) (Or.inr (ow hw 33 rfl)) (by decide) (t := .int) (t' := .int) (by decide) (by decide)))).other W17 (Or.inr (slot_ne (Or.inr (ow hw 31 rfl)) (Or.inr (ow hw 35 rfl)) (by decide) (t := .int) (t' := .int) (by decide) (by decide)))).other W22 (Or.inr (slot_ne (Or.inr (ow hw 31 rfl)) (Or.inr (ow hw 37 rfl)) (by decide) (t := .int) (t' := .int) (by decide) (by decide)))).other W27 (Or.inr (slot_ne (Or.inr (ow hw 31 rfl)) (Or.inr (ow hw 39 rfl)) (by decide) (t := .int) (t' := (.object "java/lang/String")) (by decide) (by decide)))).other W32 (Or.inr (slot_ne (Or.inr (ow hw 31 rfl)) (Or.inr (ow hw 41 rfl)) (by decide) (t := .int) (t' := .boolean) (by decide) (by decide)))).other W37 (Or.inr (slot_ne (Or.inr (ow hw 31 rfl)) (Or.inr (ow hw 43 rfl)) (by decide) (t := .int) (t' := (.object "java/lang/String")) (by decide) (by decide))))
  have fa43 : Fld Z h37 r oN "y" "I" (.int p2) := (((((fw12.other W17 (Or.inr (slot_ne (Or.inr (ow hw 33 rfl)) (Or.inr (ow hw 35 rfl)) (by decide) (t := .int) (t' := .int) (by decide) (by decide)))).other W22 (Or.inr (slot_ne (Or.inr (ow hw 33 rfl)) (Or.inr (ow hw 37 rfl)) (by decide) (t := .int) (t' := .int) (by decide) (by decide)))).other W27 (Or.inr (slot_ne (Or.inr (ow hw 33 rfl)) (Or.inr (ow hw 39 rfl)) (by decide) (t := .int) (t' := (.object "java/lang/String")) (by decide) (by decide)))).other W32 (Or.inr (slot_ne (Or.inr (ow hw 33 rfl)) (Or.inr (ow hw 41 rfl)) (by decide) (t := .int) (t' := .boolean) (by decide) (by decide)))).other W37 (Or.inr (slot_ne (Or.inr (ow hw 33 rfl)) (Or.inr (ow hw 43 rfl)) (by decide) (t := .int) (t' := (.object "java/lang/String")) (by decide) (by decide))))
  have fa44 : Fld Z h37 r oN "width" "I" (.int p3) := ((((fw17.other W22 (Or.inr (slot_ne (Or.inr (ow hw 35 rfl)) (Or.inr (ow hw 37 rfl)) (by decide) (t := .int) (t' := .int) (by decide) (by decide)))).other W27 (Or.inr (slot_ne (Or.inr (ow hw 35 rfl)) (Or.inr (ow hw 39 rfl)) (by decide) (t := .int) (t' := (.object "java/lang/String")) (by decide) (by decide)))).other W32 (Or.inr (slot_ne (Or.inr (ow hw 35 rfl)) (Or.inr (ow hw 41 rfl)) (by decide) (t := .int) (t' := .boolean) (by decide) (by decide)))).other W37 (Or.inr (slot_ne (Or.inr (ow hw 35 rfl)) (Or.inr (ow hw 43 rfl)) (by decide) (t := .int) (t' := (.object "java/lang/String")) (by decide) (by decide))))
  have fa45 : Fld Z h37 r oN "height" "I" (.int p4) := (((fw22.other W27 (Or.inr (slot_ne (Or.inr (ow hw 37 rfl)) (Or.inr (ow hw 39 rfl)) (by decide) (t := .int) (t' := (.object "java/lang/String")) (by decide) (by decide)))).other W32 (Or.inr (slot_ne (Or.inr (ow hw 37 rfl)) (Or.inr (ow hw 41 rfl)) (by decide) (t := .int) (t' := .boolean) (by decide) (by decide)))).other W37 (Or.inr (slot_ne (Or.inr (ow hw 37 rfl)) (Or.inr (ow hw 43 rfl)) (by decide) (t := .int) (t' := (.object "java/lang/String")) (by decide) (by decide))))
  refine ⟨_, _, pre0 _ ?_, hrun, hended, _, _, rfl, ?_, ⟨_, rfl⟩, hW, hsame.mono (by decide) (by decide)⟩
  · show Steps p.tables e below (s₁.setTop (mkF m 0 #[.val (.ref r), .val (.long q1), .second, .val (.int p1), .val (.int p2), .val (.int p3), .val (.int p4), .val (.ref a1), .val (.int (0 : Int32)), .val (.ref a2)] [])) _
    refine XS.aloadN X0.here hx rfl (hb hby d2_0) rfl rfl ?_
    show Steps p.tables e below (s₁.setTop (mkF m 1 #[.val (.ref r), .val (.long q1), .second, .val (.int p1), .val (.int p2), .val (.int p3), .val (.int p4), .val (.ref a1), .val (.int (0 : Int32)), .val (.ref a2)] [(.ref r)])) _
    refine st1.trans ?_
    show Steps p.tables e below (T1.setTop (mkF m 4 #[.val (.ref r), .val (.long q1), .second, .val (.int p1), .val (.int p2), .val (.int p3), .val (.int p4), .val (.ref a1), .val (.int (0 : Int32)), .val (.ref a2)] [])) _
    refine XS.aloadN X1.here hx rfl (hb hby d2_4) rfl rfl ?_
    show Steps p.tables e below (T1.setTop (mkF m 5 #[.val (.ref r), .val (.long q1), .second, .val (.int p1), .val (.int p2), .val (.int p3), .val (.int p4), .val (.ref a1), .val (.int (0 : Int32)), .val (.ref a2)] [(.ref r)])) _
    refine XS.lloadN X1.here hx rfl (hb hby d2_5) rfl  ?_
    show Steps p.tables e below (T1.setTop (mkF m 6 #[.val (.ref r), .val (.long q1), .second, .val (.int p1), .val (.int p2), .val (.int p3), .val (.int p4), .val (.ref a1), .val (.int (0 : Int32)), .val (.ref a2)] [(.long q1), (.ref r)])) _
    refine st2 _ ?_
    show Steps p.tables e below (T2.setTop (mkF m 9 #[.val (.ref r), .val (.long q1), .second, .val (.int p1), .val (.int p2), .val (.int p3), .val (.int p4), .val (.ref a1), .val (.int (0 : Int32)), .val (.ref a2)] [])) _
    refine XS.aloadN X2.here hx rfl (hb hby d2_9) rfl rfl ?_
    show Steps p.tables e below (T2.setTop (mkF m 10 #[.val (.ref r), .val (.long q1), .second, .val (.int p1), .val (.int p2), .val (.int p3), .val (.int p4), .val (.ref a1), .val (.int (0 : Int32)), .val (.ref a2)] [(.ref r)])) _
    refine XS.iloadN X2.here hx rfl (hb hby d2_10) rfl  ?_
    show Steps p.tables e below (T2.setTop (mkF m 11 #[.val (.ref r), .val (.long q1), .second, .val (.int p1), .val (.int p2), .val (.int p3), .val (.int p4), .val (.ref a1), .val (.int (0 : Int32)), .val (.ref a2)] [(.int p1), (.ref r)])) _
    refine st7 _ ?_
    show Steps p.tables e below (T7.setTop (mkF m 14 #[.val (.ref r), .val (.long q1), .second, .val (.int p1), .val (.int p2), .val (.int p3), .val (.int p4), .val (.ref a1), .val (.int (0 : Int32)), .val (.ref a2)] [])) _
    refine XS.aloadN X7.here hx rfl (hb hby d2_14) rfl rfl ?_
    show Steps p.tables e below (T7.setTop (mkF m 15 #[.val (.ref r), .val (.long q1), .second, .val (.int p1), .val (.int p2), .val (.int p3), .val (.int p4), .val (.ref a1), .val (.int (0 : Int32)), .val (.ref a2)] [(.ref r)])) _
    refine XS.iload X7.here hx rfl (hb hby d2_15) rfl  ?_
    show Steps p.tables e below (T7.setTop (mkF m 17 #[.val (.ref r), .val (.long q1), .second, .val (.int p1), .val (.int p2), .val (.int p3), .val (.int p4), .val (.ref a1), .val (.int (0 : Int32)), .val (.ref a2)] [(.int p2), (.ref r)])) _
    refine st12 _ ?_
    show Steps p.tables e below (T12.setTop (mkF m 20 #[.val (.ref r), .val (.long q1), .second, .val (.int p1), .val (.int p2), .val (.int p3), .val (.int p4), .val (.ref a1), .val (.int (0 : Int32)), .val (.ref a2)] [])) _
    refine XS.aloadN X12.here hx rfl (hb hby d2_20) rfl rfl ?_
    show Steps p.tables e below (T12.setTop (mkF m 21 #[.val (.ref r), .val (.long q1), .second, .val (.int p1), .val (.int p2), .val (.int p3), .val (.int p4), .val (.ref a1), .val (.int (0 : Int32)), .val (.ref a2)] [(.ref r)])) _
    refine XS.iload X12.here hx rfl (hb hby d2_21) rfl  ?_
    show Steps p.tables e below (T12.setTop (mkF m 23 #[.val (.ref r), .val (.long q1), .second, .val (.int p1), .val (.int p2), .val (.int p3), .val (.int p4), .val (.ref a1), .val (.int (0 : Int32)), .val (.ref a2)] [(.int p3), (.ref r)])) _
    refine st17 _ ?_
    show Steps p.tables e below (T17.setTop (mkF m 26 #[.val (.ref r), .val (.long q1), .second, .val (.int p1), .val (.int p2), .val (.int p3), .val (.int p4), .val (.ref a1), .val (.int (0 : Int32)), .val (.ref a2)] [])) _
    refine XS.aloadN X17.here hx rfl (hb hby d2_26) rfl rfl ?_
    show Steps p.tables e below (T17.setTop (mkF m 27 #[.val (.ref r), .val (.long q1), .second, .val (.int p1), .val (.int p2), .val (.int p3), .val (.int p4), .val (.ref a1), .val (.int (0 : Int32)), .val (.ref a2)] [(.ref r)])) _
    refine XS.iload X17.here hx rfl (hb hby d2_27) rfl  ?_
    show Steps p.tables e below (T17.setTop (mkF m 29 #[.val (.ref r), .val (.long q1), .second, .val (.int p1), .val (.int p2), .val (.int p3), .val (.int p4), .val (.ref a1), .val (.int (0 : Int32)), .val (.ref a2)] [(.int p4), (.ref r)])) _
    refine st22 _ ?_
    show Steps p.tables e below (T22.setTop (mkF m 32 #[.val (.ref r), .val (.long q1), .second, .val (.int p1), .val (.int p2), .val (.int p3), .val (.int p4), .val (.ref a1), .val (.int (0 : Int32)), .val (.ref a2)] [])) _
    refine XS.aloadN X22.here hx rfl (hb hby d2_32) rfl rfl ?_
    show Steps p.tables e below (T22.setTop (mkF m 33 #[.val (.ref r), .val (.long q1), .second, .val (.int p1), .val (.int p2), .val (.int p3), .val (.int p4), .val (.ref a1), .val (.int (0 : Int32)), .val (.ref a2)] [(.ref r)])) _
    refine XS.aload X22.here hx rfl (hb hby d2_33) rfl rfl ?_
    show Steps p.tables e below (T22.setTop (mkF m 35 #[.val (.ref r), .val (.long q1), .second, .val (.int p1), .val (.int p2), .val (.int p3), .val (.int p4), .val (.ref a1), .val (.int (0 : Int32)), .val (.ref a2)] [(.ref a1), (.ref r)])) _
    refine st27 _ ?_
    show Steps p.tables e below (T27.setTop (mkF m 38 #[.val (.ref r), .val (.long q1), .second, .val (.int p1), .val (.int p2), .val (.int p3), .val (.int p4), .val (.ref a1), .val (.int (0 : Int32)), .val (.ref a2)] [])) _
    refine XS.aloadN X27.here hx rfl (hb hby d2_38) rfl rfl ?_
    show Steps p.tables e below (T27.setTop (mkF m 39 #[.val (.ref r), .val (.long q1), .second, .val (.int p1), .val (.int p2), .val (.int p3), .val (.int p4), .val (.ref a1), .val (.int (0 : Int32)), .val (.ref a2)] [(.ref r)])) _
    refine XS.iload X27.here hx rfl (hb hby d2_39) rfl  ?_
    show Steps p.tables e below (T27.setTop (mkF m 41 #[.val (.ref r), .val (.long q1), .second, .val (.int p1), .val (.int p2), .val (.int p3), .val (.int p4), .val (.ref a1), .val (.int (0 : Int32)), .val (.ref a2)] [(.int (0 : Int32)), (.ref r)])) _
    refine st32 _ ?_
    show Steps p.tables e below (T32.setTop (mkF m 44 #[.val (.ref r), .val (.long q1), .second, .val (.int p1), .val (.int p2), .val (.int p3), .val (.int p4), .val (.ref a1), .val (.int (0 : Int32)), .val (.ref a2)] [])) _
    refine XS.aloadN X32.here hx rfl (hb hby d2_44) rfl rfl ?_
    show Steps p.tables e below (T32.setTop (mkF m 45 #[.val (.ref r), .val (.long q1), .second, .val (.int p1), .val (.int p2), .val (.int p3), .val (.int p4), .val (.ref a1), .val (.int (0 : Int32)), .val (.ref a2)] [(.ref r)])) _
    refine XS.aload X32.here hx rfl (hb hby d2_45) rfl rfl ?_
    show Steps p.tables e below (T32.setTop (mkF m 47 #[.val (.ref r), .val (.long q1), .second, .val (.int p1), .val (.int p2), .val (.int p3), .val (.int p4), .val (.ref a1), .val (.int (0 : Int32)), .val (.ref a2)] [(.ref a2), (.ref r)])) _
    refine st37 _ ?_
    show Steps p.tables e below (T37.setTop (mkF m 50 #[.val (.ref r), .val (.long q1), .second, .val (.int p1), .val (.int p2), .val (.int p3), .val (.int p4), .val (.ref a1), .val (.int (0 : Int32)), .val (.ref a2)] [])) _
    exact X37.returnOut hx Bd.returns (hb hby d2_50) hr
  · show Q2 Z r q1 p1 p2 p3 p4 a1 a2 u0 u1 u2 u3 u4 u5 u6 u7 h0 n0 _ T37.heap _
    rw [e37]
    exact ⟨rfl, N37, K39, fa40, fa41, fa42, fa43, fa44, fa45⟩
theorem d5_0 : decode prog_29_method_2_code 0 = .ok (.aload_n 0, 1) := by decide +kernel
theorem d5_1 : decode prog_29_method_2_code 1 = .ok (.getfield 13, 3) := by decide +kernel
theorem d5_4 : decode prog_29_method_2_code 4 = .ok (.iload_n 1, 1) := by decide +kernel
theorem d5_5 : decode prog_29_method_2_code 5 = .ok (.if_icmp .gt 41, 3) := by decide +kernel
theorem d5_46 : decode prog_29_method_2_code 46 = .ok (.iconst 0, 1) := by decide +kernel
theorem d5_47 : decode prog_29_method_2_code 47 = .ok (.ireturn, 1) := by decide +kernel
theorem d5_8 : decode prog_29_method_2_code 8 = .ok (.iload_n 1, 1) := by decide +kernel
theorem d5_9 : decode prog_29_method_2_code 9 = .ok (.aload_n 0, 1) := by decide +kernel
theorem d5_10 : decode prog_29_method_2_code 10 = .ok (.getfield 13, 3) := by decide +kernel
theorem d5_13 : decode prog_29_method_2_code 13 = .ok (.aload_n 0, 1) := by decide +kernel
theorem d5_14 : decode prog_29_method_2_code 14 = .ok (.getfield 20, 3) := by decide +kernel
theorem d5_17 : decode prog_29_method_2_code 17 = .ok (.iadd, 1) := by decide +kernel
theorem d5_18 : decode prog_29_method_2_code 18 = .ok (.if_icmp .ge 28, 3) := by decide +kernel
theorem d5_21 : decode prog_29_method_2_code 21 = .ok (.aload_n 0, 1) := by decide +kernel
theorem d5_22 : decode prog_29_method_2_code 22 = .ok (.getfield 17, 3) := by decide +kernel
theorem d5_25 : decode prog_29_method_2_code 25 = .ok (.iload_n 2, 1) := by decide +kernel
theorem d5_26 : decode prog_29_method_2_code 26 = .ok (.if_icmp .gt 20, 3) := by decide +kernel
theorem d5_29 : decode prog_29_method_2_code 29 = .ok (.iload_n 2, 1) := by decide +kernel
theorem d5_30 : decode prog_29_method_2_code 30 = .ok (.aload_n 0, 1) := by decide +kernel
theorem d5_31 : decode prog_29_method_2_code 31 = .ok (.getfield 17, 3) := by decide +kernel
theorem d5_34 : decode prog_29_method_2_code 34 = .ok (.aload_n 0, 1) := by decide +kernel
theorem d5_35 : decode prog_29_method_2_code 35 = .ok (.getfield 23, 3) := by decide +kernel
theorem d5_38 : decode prog_29_method_2_code 38 = .ok (.iadd, 1) := by decide +kernel
theorem d5_39 : decode prog_29_method_2_code 39 = .ok (.if_icmp .ge 7, 3) := by decide +kernel
theorem d5_42 : decode prog_29_method_2_code 42 = .ok (.iconst 1, 1) := by decide +kernel
theorem d5_43 : decode prog_29_method_2_code 43 = .ok (.goto 4, 3) := by decide +kernel
theorem ef5 (m : MethodId) (r : Addr) (px : Int32) (py : Int32) : entryFrame m #[(.ref r), (.int px), (.int py)] 3 = mkF m 0 #[.val (.ref r), .val (.int px), .val (.int py)] [] := by first | (simp [entryFrame, mkF, argsToLocals, Value.category]; done) | rfl
def Q5 (Z : State) (r : Addr) (px : Int32) (py : Int32) (x1 : Int32) (y1 : Int32) (w1 : Int32) (h1 : Int32) (h0 : Heap) (n0 : Nat) (v : Option Value) (h : Heap) (L : List Loc) : Prop := v = some (.int (own_b (¬ (px < x1) ∧ px < (x1 + w1) ∧ ¬ (py < y1) ∧ py < (y1 + h1)))) ∧ Fr n0 L ∧ h = h0
set_option maxRecDepth 65536 in
set_option maxHeartbeats 40000000 in
theorem rm5 (l : Launch) (Z : State) (a0 : Array Value) (hw : ∀ d ∈ tables_1, d.before a0 Z = true) (ws : List Jvm.Cond) (r : Addr) (px : Int32) (py : Int32) (x1 : Int32) (y1 : Int32) (w1 : Int32) (h1 : Int32) (h0 : Heap) (n0 : Nat) (Z0 : n0 ≤ h0.size) (F1 : Fld Z h0 r oN "x" "I" (.int x1)) (F2 : Fld Z h0 r oN "y" "I" (.int y1)) (F3 : Fld Z h0 r oN "width" "I" (.int w1)) (F4 : Fld Z h0 r oN "height" "I" (.int h1)) :
    MetFree l (⟨oN, "covers", "(II)Z"⟩ : MethodName) (head1 (Jvm.Cond.code (⟨oN, "covers", "(II)Z"⟩ : MethodName) prog_29_method_2_code 3 (some .boolean) :: ws) ({ frames := 0, cells := 0, slots := 0, locals := 0 } : Room)) (fun a U => a = #[(.ref r), (.int px), (.int py)] ∧ Z.Warmed39 U.vm ∧ U.heap = h0) (fun _ _ _ _ _ => True) (fun _ U o U' => ∃ v L, o = .returned v ∧ Q5 Z r px py x1 y1 w1 h1 h0 n0 v U'.heap L ∧ FrameEnd U o U' L ({ frames := 0, cells := 0, slots := 0, locals := 0 } : Room).cells ({ frames := 0, cells := 0, slots := 0, locals := 0 } : Room).slots) := by
  refine MetFree.of_bodySF (plainFor_of_name pn2) hisR ?_
  intro p e s m args below meth c s₁ Bd hml0 hP hK
  obtain ⟨rfl, hZ, hh⟩ := hP
  have hx := Bd.exec
  have hby := Bd.bytes
  have hml : c.maxLocals = 3 := hml0
  have hown : s.vm.findClass oN = some m.cls := findClass_of_methodNamed Bd.named
  have hnm := (name_of_methodNamed Bd.named Bd.method).1
  have X0 : Stand p l e ({ frames := 0, cells := 0, slots := 0, locals := 0 } : Room) s m #[(.ref r), (.int px), (.int py)] below meth c s₁ [] 0 0 := Stand.of_body Bd
  have e0 : s₁.heap = h0 := by rw [← hh, Bd.state]; rfl
  have N0 := Fr.nil n0
  have pre0 : ∀ t, Steps p.tables e below (s₁.setTop (mkF m 0 #[.val (.ref r), .val (.int px), .val (.int py)] [])) t → Steps p.tables e below (s₁.setTop (entryFrame m #[(.ref r), (.int px), (.int py)] 3)) t := fun t k => castTop (ef5 m r px py) k
  obtain ⟨T1, X1, e1, st1⟩ := getF X0 hx hZ hown (host := "") (Or.inl (ow hw 30 rfl)) Via.refl e0 F1 (g := (mkF m 1 #[.val (.ref r), .val (.int px), .val (.int py)] [(.ref r)])) rfl rfl (hb hby d5_1)
  have pre2 : ∀ t, Steps p.tables e below (T1.setTop (mkF m 5 #[.val (.ref r), .val (.int px), .val (.int py)] [(.int px), (.int x1)])) t → Steps p.tables e below (s₁.setTop (entryFrame m #[(.ref r), (.int px), (.int py)] 3)) t := fun t k => pre0 t (by
    show Steps p.tables e below (s₁.setTop (mkF m 0 #[.val (.ref r), .val (.int px), .val (.int py)] [])) _
    refine XS.aloadN X0.here hx rfl (hb hby d5_0) rfl rfl ?_
    show Steps p.tables e below (s₁.setTop (mkF m 1 #[.val (.ref r), .val (.int px), .val (.int py)] [(.ref r)])) _
    refine st1 _ ?_
    show Steps p.tables e below (T1.setTop (mkF m 4 #[.val (.ref r), .val (.int px), .val (.int py)] [(.int x1)])) _
    refine XS.iloadN X1.here hx rfl (hb hby d5_4) rfl  ?_
    exact k)
  by_cases hc3 : px < x1
  ·  -- yes
    obtain ⟨fs, hr, hrun, hended, hW, hsame⟩ := X1.leave (v := some (.int (0 : Int32))) (fun h => by rw [Bd.returns] at h; cases h)
    refine ⟨_, _, pre2 _ ?_, hrun, hended, _, _, rfl, ?_, ⟨_, rfl⟩, hW, hsame.mono (by decide) (by decide)⟩
    · show Steps p.tables e below (T1.setTop (mkF m 5 #[.val (.ref r), .val (.int px), .val (.int py)] [(.int px), (.int x1)])) _
      refine XS.icmpYes X1.here hx rfl (pc0 := 5) (pc' := 46) rfl (hb hby d5_5) rfl (tlt hc3).2.2.1 (by decide) (by decide) ?_
      show Steps p.tables e below (T1.setTop (mkF m 46 #[.val (.ref r), .val (.int px), .val (.int py)] [])) _
      refine XS.iconst X1.here hx rfl (hb hby d5_46) ?_
      show Steps p.tables e below (T1.setTop (mkF m 47 #[.val (.ref r), .val (.int px), .val (.int py)] [(.int (0 : Int32))])) _
      exact retN X1 hx (t := .boolean) Bd.returns (by simp) (hb hby d5_47) hr
    · show Q5 Z r px py x1 y1 w1 h1 h0 n0 _ T1.heap _
      rw [e1]
      exact ⟨(congrArg (fun z => some (Value.int z)) (by first | rfl | (simp only [own_b, if_pos hc3]; done) | (simp [own_b, hc3]; done))), N0, rfl⟩
  ·  -- no
    obtain ⟨T4, X4, e4, st4⟩ := getF X1 hx hZ hown (host := "") (Or.inl (ow hw 30 rfl)) Via.refl e1 F1 (g := (mkF m 10 #[.val (.ref r), .val (.int px), .val (.int py)] [(.ref r), (.int px)])) rfl rfl (hb hby d5_10)
    obtain ⟨T5, X5, e5, st5⟩ := getF X4 hx hZ hown (host := "") (Or.inl (ow hw 34 rfl)) Via.refl e4 F3 (g := (mkF m 14 #[.val (.ref r), .val (.int px), .val (.int py)] [(.ref r), (.int x1), (.int px)])) rfl rfl (hb hby d5_14)
    have pre6 : ∀ t, Steps p.tables e below (T5.setTop (mkF m 18 #[.val (.ref r), .val (.int px), .val (.int py)] [(.int (x1 + w1)), (.int px)])) t → Steps p.tables e below (s₁.setTop (entryFrame m #[(.ref r), (.int px), (.int py)] 3)) t := fun t k => pre2 t (by
      show Steps p.tables e below (T1.setTop (mkF m 5 #[.val (.ref r), .val (.int px), .val (.int py)] [(.int px), (.int x1)])) _
      refine XS.icmpNo X1.here hx rfl (hb hby d5_5) rfl (flt hc3).2.2.1 ?_
      show Steps p.tables e below (T1.setTop (mkF m 8 #[.val (.ref r), .val (.int px), .val (.int py)] [])) _
      refine XS.iloadN X1.here hx rfl (hb hby d5_8) rfl  ?_
      show Steps p.tables e below (T1.setTop (mkF m 9 #[.val (.ref r), .val (.int px), .val (.int py)] [(.int px)])) _
      refine XS.aloadN X1.here hx rfl (hb hby d5_9) rfl rfl ?_
      show Steps p.tables e below (T1.setTop (mkF m 10 #[.val (.ref r), .val (.int px), .val (.int py)] [(.ref r), (.int px)])) _
      refine st4 _ ?_
      show Steps p.tables e below (T4.setTop (mkF m 13 #[.val (.ref r), .val (.int px), .val (.int py)] [(.int x1), (.int px)])) _
      refine XS.aloadN X4.here hx rfl (hb hby d5_13) rfl rfl ?_
      show Steps p.tables e below (T4.setTop (mkF m 14 #[.val (.ref r), .val (.int px), .val (.int py)] [(.ref r), (.int x1), (.int px)])) _
      refine st5 _ ?_
      show Steps p.tables e below (T5.setTop (mkF m 17 #[.val (.ref r), .val (.int px), .val (.int py)] [(.int w1), (.int x1), (.int px)])) _
      refine XS.iadd X5.here hx rfl (hb hby d5_17) rfl ?_
      exact k)
    by_cases hc7 : px < (x1 + w1)
    ·  -- yes
      obtain ⟨T8, X8, e8, st8⟩ := getF X5 hx hZ hown (host := "") (Or.inl (ow hw 32 rfl)) Via.refl e5 F2 (g := (mkF m 22 #[.val (.ref r), .val (.int px), .val (.int py)] [(.ref r)])) rfl rfl (hb hby d5_22)
      have pre9 : ∀ t, Steps p.tables e below (T8.setTop (mkF m 26 #[.val (.ref r), .val (.int px), .val (.int py)] [(.int py), (.int y1)])) t → Steps p.tables e below (s₁.setTop (entryFrame m #[(.ref r), (.int px), (.int py)] 3)) t := fun t k => pre6 t (by
        show Steps p.tables e below (T5.setTop (mkF m 18 #[.val (.ref r), .val (.int px), .val (.int py)] [(.int (x1 + w1)), (.int px)])) _
        refine XS.icmpNo X5.here hx rfl (hb hby d5_18) rfl (tlt hc7).2.1 ?_
        show Steps p.tables e below (T5.setTop (mkF m 21 #[.val (.ref r), .val (.int px), .val (.int py)] [])) _
        refine XS.aloadN X5.here hx rfl (hb hby d5_21) rfl rfl ?_
        show Steps p.tables e below (T5.setTop (mkF m 22 #[.val (.ref r), .val (.int px), .val (.int py)] [(.ref r)])) _
        refine st8 _ ?_
        show Steps p.tables e below (T8.setTop (mkF m 25 #[.val (.ref r), .val (.int px), .val (.int py)] [(.int y1)])) _
        refine XS.iloadN X8.here hx rfl (hb hby d5_25) rfl  ?_
        exact k)
      by_cases hc10 : py < y1
      ·  -- yes
        obtain ⟨fs, hr, hrun, hended, hW, hsame⟩ := X8.leave (v := some (.int (0 : Int32))) (fun h => by rw [Bd.returns] at h; cases h)
        refine ⟨_, _, pre9 _ ?_, hrun, hended, _, _, rfl, ?_, ⟨_, rfl⟩, hW, hsame.mono (by decide) (by decide)⟩
        · show Steps p.tables e below (T8.setTop (mkF m 26 #[.val (.ref r), .val (.int px), .val (.int py)] [(.int py), (.int y1)])) _
          refine XS.icmpYes X8.here hx rfl (pc0 := 26) (pc' := 46) rfl (hb hby d5_26) rfl (tlt hc10).2.2.1 (by decide) (by decide) ?_
          show Steps p.tables e below (T8.setTop (mkF m 46 #[.val (.ref r), .val (.int px), .val (.int py)] [])) _
          refine XS.iconst X8.here hx rfl (hb hby d5_46) ?_
          show Steps p.tables e below (T8.setTop (mkF m 47 #[.val (.ref r), .val (.int px), .val (.int py)] [(.int (0 : Int32))])) _
          exact retN X8 hx (t := .boolean) Bd.returns (by simp) (hb hby d5_47) hr
        · show Q5 Z r px py x1 y1 w1 h1 h0 n0 _ T8.heap _
          rw [e8]
          exact ⟨(congrArg (fun z => some (Value.int z)) (by first | rfl | (simp only [own_b, if_neg hc3, if_pos hc7, if_pos hc10]; done) | (simp [own_b, hc3, hc7, hc10]; done))), N0, rfl⟩
      ·  -- no
        obtain ⟨T11, X11, e11, st11⟩ := getF X8 hx hZ hown (host := "") (Or.inl (ow hw 32 rfl)) Via.refl e8 F2 (g := (mkF m 31 #[.val (.ref r), .val (.int px), .val (.int py)] [(.ref r), (.int py)])) rfl rfl (hb hby d5_31)
        obtain ⟨T12, X12, e12, st12⟩ := getF X11 hx hZ hown (host := "") (Or.inl (ow hw 36 rfl)) Via.refl e11 F4 (g := (mkF m 35 #[.val (.ref r), .val (.int px), .val (.int py)] [(.ref r), (.int y1), (.int py)])) rfl rfl (hb hby d5_35)
        have pre13 : ∀ t, Steps p.tables e below (T12.setTop (mkF m 39 #[.val (.ref r), .val (.int px), .val (.int py)] [(.int (y1 + h1)), (.int py)])) t → Steps p.tables e below (s₁.setTop (entryFrame m #[(.ref r), (.int px), (.int py)] 3)) t := fun t k => pre9 t (by
          show Steps p.tables e below (T8.setTop (mkF m 26 #[.val (.ref r), .val (.int px), .val (.int py)] [(.int py), (.int y1)])) _
          refine XS.icmpNo X8.here hx rfl (hb hby d5_26) rfl (flt hc10).2.2.1 ?_
          show Steps p.tables e below (T8.setTop (mkF m 29 #[.val (.ref r), .val (.int px), .val (.int py)] [])) _
          refine XS.iloadN X8.here hx rfl (hb hby d5_29) rfl  ?_
          show Steps p.tables e below (T8.setTop (mkF m 30 #[.val (.ref r), .val (.int px), .val (.int py)] [(.int py)])) _
          refine XS.aloadN X8.here hx rfl (hb hby d5_30) rfl rfl ?_
          show Steps p.tables e below (T8.setTop (mkF m 31 #[.val (.ref r), .val (.int px), .val (.int py)] [(.ref r), (.int py)])) _
          refine st11 _ ?_
          show Steps p.tables e below (T11.setTop (mkF m 34 #[.val (.ref r), .val (.int px), .val (.int py)] [(.int y1), (.int py)])) _
          refine XS.aloadN X11.here hx rfl (hb hby d5_34) rfl rfl ?_
          show Steps p.tables e below (T11.setTop (mkF m 35 #[.val (.ref r), .val (.int px), .val (.int py)] [(.ref r), (.int y1), (.int py)])) _
          refine st12 _ ?_
          show Steps p.tables e below (T12.setTop (mkF m 38 #[.val (.ref r), .val (.int px), .val (.int py)] [(.int h1), (.int y1), (.int py)])) _
          refine XS.iadd X12.here hx rfl (hb hby d5_38) rfl ?_
          exact k)
        by_cases hc14 : py < (y1 + h1)
        ·  -- yes
          obtain ⟨fs, hr, hrun, hended, hW, hsame⟩ := X12.leave (v := some (.int (1 : Int32))) (fun h => by rw [Bd.returns] at h; cases h)
          refine ⟨_, _, pre13 _ ?_, hrun, hended, _, _, rfl, ?_, ⟨_, rfl⟩, hW, hsame.mono (by decide) (by decide)⟩
          · show Steps p.tables e below (T12.setTop (mkF m 39 #[.val (.ref r), .val (.int px), .val (.int py)] [(.int (y1 + h1)), (.int py)])) _
            refine XS.icmpNo X12.here hx rfl (hb hby d5_39) rfl (tlt hc14).2.1 ?_
            show Steps p.tables e below (T12.setTop (mkF m 42 #[.val (.ref r), .val (.int px), .val (.int py)] [])) _
            refine XS.iconst X12.here hx rfl (hb hby d5_42) ?_
            show Steps p.tables e below (T12.setTop (mkF m 43 #[.val (.ref r), .val (.int px), .val (.int py)] [(.int (1 : Int32))])) _
            refine XS.goto X12.here hx rfl (pc0 := 43) (pc' := 47) rfl (hb hby d5_43) (by decide) (by decide) ?_
            show Steps p.tables e below (T12.setTop (mkF m 47 #[.val (.ref r), .val (.int px), .val (.int py)] [(.int (1 : Int32))])) _
            exact retN X12 hx (t := .boolean) Bd.returns (by simp) (hb hby d5_47) hr
          · show Q5 Z r px py x1 y1 w1 h1 h0 n0 _ T12.heap _
            rw [e12]
            exact ⟨(congrArg (fun z => some (Value.int z)) (by first | rfl | (simp only [own_b, if_neg hc3, if_pos hc7, if_neg hc10, if_pos hc14]; done) | (simp [own_b, hc3, hc7, hc10, hc14]; done))), N0, rfl⟩
        ·  -- no
          obtain ⟨fs, hr, hrun, hended, hW, hsame⟩ := X12.leave (v := some (.int (0 : Int32))) (fun h => by rw [Bd.returns] at h; cases h)
          refine ⟨_, _, pre13 _ ?_, hrun, hended, _, _, rfl, ?_, ⟨_, rfl⟩, hW, hsame.mono (by decide) (by decide)⟩
          · show Steps p.tables e below (T12.setTop (mkF m 39 #[.val (.ref r), .val (.int px), .val (.int py)] [(.int (y1 + h1)), (.int py)])) _
            refine XS.icmpYes X12.here hx rfl (pc0 := 39) (pc' := 46) rfl (hb hby d5_39) rfl (flt hc14).2.1 (by decide) (by decide) ?_
            show Steps p.tables e below (T12.setTop (mkF m 46 #[.val (.ref r), .val (.int px), .val (.int py)] [])) _
            refine XS.iconst X12.here hx rfl (hb hby d5_46) ?_
            show Steps p.tables e below (T12.setTop (mkF m 47 #[.val (.ref r), .val (.int px), .val (.int py)] [(.int (0 : Int32))])) _
            exact retN X12 hx (t := .boolean) Bd.returns (by simp) (hb hby d5_47) hr
          · show Q5 Z r px py x1 y1 w1 h1 h0 n0 _ T12.heap _
            rw [e12]
            exact ⟨(congrArg (fun z => some (Value.int z)) (by first | rfl | (simp only [own_b, if_neg hc3, if_pos hc7, if_neg hc10, if_neg hc14]; done) | (simp [own_b, hc3, hc7, hc10, hc14]; done))), N0, rfl⟩
    ·  -- no
      obtain ⟨fs, hr, hrun, hended, hW, hsame⟩ := X5.leave (v := some (.int (0 : Int32))) (fun h => by rw [Bd.returns] at h; cases h)
      refine ⟨_, _, pre6 _ ?_, hrun, hended, _, _, rfl, ?_, ⟨_, rfl⟩, hW, hsame.mono (by decide) (by decide)⟩
      · show Steps p.tables e below (T5.setTop (mkF m 18 #[.val (.ref r), .val (.int px), .val (.int py)] [(.int (x1 + w1)), (.int px)])) _
        refine XS.icmpYes X5.here hx rfl (pc0 := 18) (pc' := 46) rfl (hb hby d5_18) rfl (flt hc7).2.1 (by decide) (by decide) ?_
        show Steps p.tables e below (T5.setTop (mkF m 46 #[.val (.ref r), .val (.int px), .val (.int py)] [])) _
        refine XS.iconst X5.here hx rfl (hb hby d5_46) ?_
        show Steps p.tables e below (T5.setTop (mkF m 47 #[.val (.ref r), .val (.int px), .val (.int py)] [(.int (0 : Int32))])) _
        exact retN X5 hx (t := .boolean) Bd.returns (by simp) (hb hby d5_47) hr
      · show Q5 Z r px py x1 y1 w1 h1 h0 n0 _ T5.heap _
        rw [e5]
        exact ⟨(congrArg (fun z => some (Value.int z)) (by first | rfl | (simp only [own_b, if_neg hc3, if_neg hc7]; done) | (simp [own_b, hc3, hc7]; done))), N0, rfl⟩
theorem pd4 : parseMethodDescriptor "(II)I" = some ⟨[.int, .int], some .int⟩ := by decide +kernel
theorem pd5 : parseMethodDescriptor "(JIIIILjava/lang/String;ZLjava/lang/String;)V" = some ⟨[.long, .int, .int, .int, .int, (.object "java/lang/String"), .boolean, (.object "java/lang/String")], none⟩ := by decide +kernel
theorem pd6 : parseMethodDescriptor "(II)Z" = some ⟨[.int, .int], some .boolean⟩ := by decide +kernel
theorem ef0 (m : MethodId) (p0 : Int32) (p1 : Int32) (p2 : Int32) (p3 : Int32) (p4 : Int32) (p5 : Int32) : entryFrame m #[(.int p0), (.int p1), (.int p2), (.int p3), (.int p4), (.int p5)] maxLocals = mkF m 0 #[.val (.int p0), .val (.int p1), .val (.int p2), .val (.int p3), .val (.int p4), .val (.int p5), .unset, .unset, .unset, .unset, .unset, .unset, .unset, .unset, .unset, .unset, .unset] [] := by first | (simp [entryFrame, mkF, argsToLocals, Value.category, maxLocals]; done) | rfl
def Q0 (Z : State) (p0 : Int32) (p1 : Int32) (p2 : Int32) (p3 : Int32) (p4 : Int32) (p5 : Int32) (h0 : Heap) (n0 : Nat) (v : Option Value) (h : Heap) (L : List Loc) : Prop := v = some (.int (1 : Int32)) ∧ Fr n0 L
set_option maxRecDepth 65536 in
set_option maxHeartbeats 40000000 in
theorem rm0 (l : Launch) (Z : State) (a0 : Array Value) (hw : ∀ d ∈ tables_1, d.before a0 Z = true) (ws : List Jvm.Cond) (p0 : Int32) (p1 : Int32) (p2 : Int32) (p3 : Int32) (p4 : Int32) (p5 : Int32) (h0 : Heap) (n0 : Nat) (Z0 : n0 ≤ h0.size) :
    MetFree l x (head1 (Jvm.Cond.code x code maxLocals ret :: ws) room_1) (fun a U => a = #[(.int p0), (.int p1), (.int p2), (.int p3), (.int p4), (.int p5)] ∧ Z.Warmed39 U.vm ∧ U.heap = h0) (fun _ _ _ _ _ => True) (fun _ U o U' => ∃ v L, o = .returned v ∧ Q0 Z p0 p1 p2 p3 p4 p5 h0 n0 v U'.heap L ∧ ReturnedEndW U o U' L room_1.cells room_1.slots) := by
  refine MetFree.of_bodySF (plainFor_of_name pn1) hisR ?_
  intro p e s m args below meth c s₁ Bd hml0 hP hK
  obtain ⟨rfl, hZ, hh⟩ := hP
  have hx := Bd.exec
  have hby := Bd.bytes
  have hml : c.maxLocals = 17 := hml0
  have hown : s.vm.findClass "com/example/tackboard/tackboard/core/NoteCoversPinLaw" = some m.cls := findClass_of_methodNamed Bd.named
  have hnm := (name_of_methodNamed Bd.named Bd.method).1
  have X0 : Stand p l e room_1 s m #[(.int p0), (.int p1), (.int p2), (.int p3), (.int p4), (.int p5)] below meth c s₁ [] 0 0 := Stand.of_body Bd
  have e0 : s₁.heap = h0 := by rw [← hh, Bd.state]; rfl
  have N0 := Fr.nil n0
  have pre0 : ∀ t, Steps p.tables e below (s₁.setTop (mkF m 0 #[.val (.int p0), .val (.int p1), .val (.int p2), .val (.int p3), .val (.int p4), .val (.int p5), .unset, .unset, .unset, .unset, .unset, .unset, .unset, .unset, .unset, .unset, .unset] [])) t → Steps p.tables e below (s₁.setTop (entryFrame m #[(.int p0), (.int p1), (.int p2), (.int p3), (.int p4), (.int p5)] maxLocals)) t := fun t k => castTop (ef0 m p0 p1 p2 p3 p4 p5) k
  have X0 : Stand p l e room_1 (s.setVm s.vm) m #[(.int p0), (.int p1), (.int p2), (.int p3), (.int p4), (.int p5)] below meth c s₁ [] 0 0 := X0
  have hS0 : s.Since s.vm h0.size := (State.WarmedH.refl s).since _
  have hk0 : h0.size ≤ h0.size := Nat.le_refl _
  have hwS : ∀ d ∈ Bundle.stringAtoms, d.before a0 Z = true := fun d hd => by
    rcases List.mem_cons.mp hd with rfl | hd
    · exact (ow hw 9 rfl)
    rcases List.mem_cons.mp hd with rfl | hd
    · exact (ow hw 10 rfl)
    rcases List.mem_cons.mp hd with rfl | hd
    · exact (ow hw 11 rfl)
    rcases List.mem_cons.mp hd with rfl | hd
    · exact (ow hw 12 rfl)
    rcases List.mem_cons.mp hd with rfl | hd
    · exact (ow hw 13 rfl)
    rcases List.mem_cons.mp hd with rfl | hd
    · exact (ow hw 14 rfl)
    rcases List.mem_cons.mp hd with rfl | hd
    · exact (ow hw 15 rfl)
    exact nomatch hd
  obtain ⟨_, _, ⟨T1, L1, k1, n1⟩, -, X1, ⟨Lc1, hQ1, l1, y1, z1⟩, st1⟩ := Jvm.LawKit.callS X0 hx (y := (⟨"com/example/tackboard/tackboard/core/NoteCoversPinLaw", "fit", "(II)I"⟩ : MethodName)) hown (mvT hZ (ow hw 0 rfl)) (mvT hZ (ow hw 1 rfl)) (mvT hZ (ow hw 2 rfl)) (mvT hZ (ow hw 3 rfl)) (by decide) (backOf (W := 0) (rm1 l Z a0 hw [] p0 p2 h0 n0 Z0 ) hZ (ow hw 3 rfl) (ow hw 2 rfl) (by decide) (by decide)) (g := (mkF m 2 #[.val (.int p0), .val (.int p1), .val (.int p2), .val (.int p3), .val (.int p4), .val (.int p5), .unset, .unset, .unset, .unset, .unset, .unset, .unset, .unset, .unset, .unset, .unset] [(.int p2), (.int p0)])) rfl (by rw [hml]; rfl) (argsL := [(.int p0), (.int p2)]) (rest := []) (lenOf pd4 rfl) rfl (by show 2 * 0 + _ ≤ _; exact Nat.le_of_eq rfl) (hb hby at_2) (fun _ _ => ⟨rfl, e0, (by decide : 0 + 0 ≤ _), (by decide : 0 + 0 ≤ _)⟩)
  dsimp only [Pt.U, Pt.locs, Pt.cells, Pt.slots] at X1 l1 y1 z1 st1 hQ1
  subst l1 y1 z1
  obtain ⟨rfl, N1q, e1⟩ := hQ1
  have N1 := Fr.app N0 N1q
  have pre2 : ∀ t, Steps p.tables e below (T1.setTop (mkF m 7 #[.val (.int p0), .val (.int p1), .val (.int p2), .val (.int p3), .val (.int p4), .val (.int p5), .val (.int (own_fit p0 p2)), .unset, .unset, .unset, .unset, .unset, .unset, .unset, .unset, .unset, .unset] [])) t → Steps p.tables e below (s₁.setTop (entryFrame m #[(.int p0), (.int p1), (.int p2), (.int p3), (.int p4), (.int p5)] maxLocals)) t := fun t k => pre0 t (by
    show Steps p.tables e below (s₁.setTop (mkF m 0 #[.val (.int p0), .val (.int p1), .val (.int p2), .val (.int p3), .val (.int p4), .val (.int p5), .unset, .unset, .unset, .unset, .unset, .unset, .unset, .unset, .unset, .unset, .unset] [])) _
    refine XS.iloadN X0.here hx rfl (hb hby at_0) rfl  ?_
    show Steps p.tables e below (s₁.setTop (mkF m 1 #[.val (.int p0), .val (.int p1), .val (.int p2), .val (.int p3), .val (.int p4), .val (.int p5), .unset, .unset, .unset, .unset, .unset, .unset, .unset, .unset, .unset, .unset, .unset] [(.int p0)])) _
    refine XS.iloadN X0.here hx rfl (hb hby at_1) rfl  ?_
    show Steps p.tables e below (s₁.setTop (mkF m 2 #[.val (.int p0), .val (.int p1), .val (.int p2), .val (.int p3), .val (.int p4), .val (.int p5), .unset, .unset, .unset, .unset, .unset, .unset, .unset, .unset, .unset, .unset, .unset] [(.int p2), (.int p0)])) _
    refine st1 _ ?_
    show Steps p.tables e below (T1.setTop (mkF m 5 #[.val (.int p0), .val (.int p1), .val (.int p2), .val (.int p3), .val (.int p4), .val (.int p5), .unset, .unset, .unset, .unset, .unset, .unset, .unset, .unset, .unset, .unset, .unset] [(.int (own_fit p0 p2))])) _
    refine XS.istore X1.here hx rfl (hb hby at_5) rfl (l' := #[.val (.int p0), .val (.int p1), .val (.int p2), .val (.int p3), .val (.int p4), .val (.int p5), .val (.int (own_fit p0 p2)), .unset, .unset, .unset, .unset, .unset, .unset, .unset, .unset, .unset, .unset]) rfl ?_
    exact k)
  obtain ⟨wd, hwd⟩ : ∃ z, z = (own_fit p0 p2) := ⟨_, rfl⟩
  rw [← hwd] at pre2
  obtain ⟨_, _, ⟨T3, L3, k3, n3⟩, -, X3, ⟨Lc3, hQ3, l3, y3, z3⟩, st3⟩ := Jvm.LawKit.callS X1 hx (y := (⟨"com/example/tackboard/tackboard/core/NoteCoversPinLaw", "fit", "(II)I"⟩ : MethodName)) hown (mvT hZ (ow hw 0 rfl)) (mvT hZ (ow hw 1 rfl)) (mvT hZ (ow hw 2 rfl)) (mvT hZ (ow hw 3 rfl)) (by decide) (backOf (W := 0) (rm1 l Z a0 hw [] p1 p3 h0 n0 Z0 ) hZ (ow hw 3 rfl) (ow hw 2 rfl) (by decide) (by decide)) (g := (mkF m 9 #[.val (.int p0), .val (.int p1), .val (.int p2), .val (.int p3), .val (.int p4), .val (.int p5), .val (.int wd), .unset, .unset, .unset, .unset, .unset, .unset, .unset, .unset, .unset, .unset] [(.int p3), (.int p1)])) rfl (by rw [hml]; rfl) (argsL := [(.int p1), (.int p3)]) (rest := []) (lenOf pd4 rfl) rfl (by show 2 * 0 + _ ≤ _; exact Nat.le_of_eq rfl) (hb hby at_9) (fun _ _ => ⟨rfl, e1, (by decide : 0 + 0 ≤ _), (by decide : 0 + 0 ≤ _)⟩)
  dsimp only [Pt.U, Pt.locs, Pt.cells, Pt.slots] at X3 l3 y3 z3 st3 hQ3
  subst l3 y3 z3
  obtain ⟨rfl, N3q, e3⟩ := hQ3
  have N3 := Fr.app N1 N3q
  have pre4 : ∀ t, Steps p.tables e below (T3.setTop (mkF m 14 #[.val (.int p0), .val (.int p1), .val (.int p2), .val (.int p3), .val (.int p4), .val (.int p5), .val (.int wd), .val (.int (own_fit p1 p3)), .unset, .unset, .unset, .unset, .unset, .unset, .unset, .unset, .unset] [])) t → Steps p.tables e below (s₁.setTop (entryFrame m #[(.int p0), (.int p1), (.int p2), (.int p3), (.int p4), (.int p5)] maxLocals)) t := fun t k => pre2 t (by
    show Steps p.tables e below (T1.setTop (mkF m 7 #[.val (.int p0), .val (.int p1), .val (.int p2), .val (.int p3), .val (.int p4), .val (.int p5), .val (.int wd), .unset, .unset, .unset, .unset, .unset, .unset, .unset, .unset, .unset, .unset] [])) _
    refine XS.iloadN X1.here hx rfl (hb hby at_7) rfl  ?_
    show Steps p.tables e below (T1.setTop (mkF m 8 #[.val (.int p0), .val (.int p1), .val (.int p2), .val (.int p3), .val (.int p4), .val (.int p5), .val (.int wd), .unset, .unset, .unset, .unset, .unset, .unset, .unset, .unset, .unset, .unset] [(.int p1)])) _
    refine XS.iloadN X1.here hx rfl (hb hby at_8) rfl  ?_
    show Steps p.tables e below (T1.setTop (mkF m 9 #[.val (.int p0), .val (.int p1), .val (.int p2), .val (.int p3), .val (.int p4), .val (.int p5), .val (.int wd), .unset, .unset, .unset, .unset, .unset, .unset, .unset, .unset, .unset, .unset] [(.int p3), (.int p1)])) _
    refine st3 _ ?_
    show Steps p.tables e below (T3.setTop (mkF m 12 #[.val (.int p0), .val (.int p1), .val (.int p2), .val (.int p3), .val (.int p4), .val (.int p5), .val (.int wd), .unset, .unset, .unset, .unset, .unset, .unset, .unset, .unset, .unset, .unset] [(.int (own_fit p1 p3))])) _
    refine XS.istore X3.here hx rfl (hb hby at_12) rfl (l' := #[.val (.int p0), .val (.int p1), .val (.int p2), .val (.int p3), .val (.int p4), .val (.int p5), .val (.int wd), .val (.int (own_fit p1 p3)), .unset, .unset, .unset, .unset, .unset, .unset, .unset, .unset, .unset]) rfl ?_
    exact k)
  obtain ⟨hg, hhg⟩ : ∃ z, z = (own_fit p1 p3) := ⟨_, rfl⟩
  rw [← hhg] at pre4
  obtain ⟨T5, h5, X5, e5, E5, A5, D5, -, st5⟩ := newO X3 hx hZ hown (ow hw 5 rfl) (ow hw 6 rfl) (ow hw 7 rfl) e3 (g := (mkF m 14 #[.val (.int p0), .val (.int p1), .val (.int p2), .val (.int p3), .val (.int p4), .val (.int p5), .val (.int wd), .val (.int hg), .unset, .unset, .unset, .unset, .unset, .unset, .unset, .unset, .unset] [])) rfl (hb hby at_14) (by decide) (by decide)
  obtain ⟨b5, g5⟩ : ∃ z, z = h0.size := ⟨_, rfl⟩
  rw [← g5] at A5 D5 st5
  have gn_b5 : n0 ≤ b5 := Nat.le_trans Z0 (Nat.le_of_eq g5.symm)
  have hk6 := Nat.le_trans hk0 E5.1
  have Z7 : n0 ≤ h5.size := Nat.le_trans Z0 E5.1
  have F_id_b5 : Fld Z h5 b5 oN "id" "J" (.long (0 : Int64)) := D5 (Or.inr (ow hw 29 rfl)) (ty := .long) (by decide)
  have F_x_b5 : Fld Z h5 b5 oN "x" "I" (.int (0 : Int32)) := D5 (Or.inr (ow hw 31 rfl)) (ty := .int) (by decide)
  have F_y_b5 : Fld Z h5 b5 oN "y" "I" (.int (0 : Int32)) := D5 (Or.inr (ow hw 33 rfl)) (ty := .int) (by decide)
  have F_width_b5 : Fld Z h5 b5 oN "width" "I" (.int (0 : Int32)) := D5 (Or.inr (ow hw 35 rfl)) (ty := .int) (by decide)
  have F_height_b5 : Fld Z h5 b5 oN "height" "I" (.int (0 : Int32)) := D5 (Or.inr (ow hw 37 rfl)) (ty := .int) (by decide)
  have F_color_b5 : Fld Z h5 b5 oN "color" "Ljava/lang/String;" .null := D5 (Or.inr (ow hw 39 rfl)) (ty := (.object "java/lang/String")) (by decide)
  have F_pinned_b5 : Fld Z h5 b5 oN "pinned" "Z" (.int (0 : Int32)) := D5 (Or.inr (ow hw 41 rfl)) (ty := .boolean) (by decide)
  have F_message_b5 : Fld Z h5 b5 oN "message" "Ljava/lang/String;" .null := D5 (Or.inr (ow hw 43 rfl)) (ty := (.object "java/lang/String")) (by decide)
  obtain ⟨b8, T8, h8, k8, X8, e8, E8, hS8, hk8, hZ, hown, st8⟩ := ldcS X5 hx hZ hown (ow hw 8 rfl) hwS e5 hS0 hk6 (g := (mkF m 25 #[.val (.int p0), .val (.int p1), .val (.int p2), .val (.int p3), .val (.int p4), .val (.int p5), .val (.int wd), .val (.int hg), .unset, .unset, .unset, .unset, .unset, .unset, .unset, .unset, .unset] [(.int hg), (.int wd), (.int p1), (.int p0), (.long (0 : Int64)), (.ref b5), (.ref b5)])) rfl (hb hby at_25) (n := 4) (by decide) (by decide) (by decide) (by decide)
  have Z9 : n0 ≤ h8.size := Nat.le_trans Z7 E8.1
  obtain ⟨b10, T10, h10, k10, X10, e10, E10, hS10, hk10, hZ, hown, st10⟩ := ldcS X8 hx hZ hown (ow hw 16 rfl) hwS e8 hS8 hk8 (g := (mkF m 28 #[.val (.int p0), .val (.int p1), .val (.int p2), .val (.int p3), .val (.int p4), .val (.int p5), .val (.int wd), .val (.int hg), .unset, .unset, .unset, .unset, .unset, .unset, .unset, .unset, .unset] [(.int (0 : Int32)), (.ref b8), (.int hg), (.int wd), (.int p1), (.int p0), (.long (0 : Int64)), (.ref b5), (.ref b5)])) rfl (hb hby at_28) (n := 4) (by decide) (by decide) (by decide) (by decide)
  have Z11 : n0 ≤ h10.size := Nat.le_trans Z9 E10.1
  have fa12 : Exa Z h10 b5 oN := ((A5.ext E8).ext E10)
  have fa13 : Fld Z h10 b5 oN "id" "J" (.long (0 : Int64)) := ((F_id_b5.ext E8).ext E10)
  have fa14 : Fld Z h10 b5 oN "x" "I" (.int (0 : Int32)) := ((F_x_b5.ext E8).ext E10)
  have fa15 : Fld Z h10 b5 oN "y" "I" (.int (0 : Int32)) := ((F_y_b5.ext E8).ext E10)
  have fa16 : Fld Z h10 b5 oN "width" "I" (.int (0 : Int32)) := ((F_width_b5.ext E8).ext E10)
  have fa17 : Fld Z h10 b5 oN "height" "I" (.int (0 : Int32)) := ((F_height_b5.ext E8).ext E10)
  have fa18 : Fld Z h10 b5 oN "color" "Ljava/lang/String;" .null := ((F_color_b5.ext E8).ext E10)
  have fa19 : Fld Z h10 b5 oN "pinned" "Z" (.int (0 : Int32)) := ((F_pinned_b5.ext E8).ext E10)
  have fa20 : Fld Z h10 b5 oN "message" "Ljava/lang/String;" .null := ((F_message_b5.ext E8).ext E10)
  obtain ⟨_, _, ⟨T21, L21, k21, n21⟩, -, X21, ⟨Lc21, hQ21, l21, y21, z21⟩, st21⟩ := X10.specialBack hx (y := (⟨oN, "<init>", "(JIIIILjava/lang/String;ZLjava/lang/String;)V"⟩ : MethodName)) rfl hown (mvT hZ (ow hw 17 rfl)) (mvT hZ (ow hw 18 rfl)) (mvT hZ (ow hw 19 rfl)) (by decide) (backOf (W := 1) (rm2 l Z a0 hw [] b5 (0 : Int64) p0 p1 wd hg b8 b10 (.long (0 : Int64)) (.int (0 : Int32)) (.int (0 : Int32)) (.int (0 : Int32)) (.int (0 : Int32)) .null (.int (0 : Int32)) .null h10 n0 Z11 fa12 fa13 fa14 fa15 fa16 fa17 fa18 fa19 fa20 gn_b5) hZ (ow hw 19 rfl) (ow hw 7 rfl) (by decide) (by decide)) (g := (mkF m 30 #[.val (.int p0), .val (.int p1), .val (.int p2), .val (.int p3), .val (.int p4), .val (.int p5), .val (.int wd), .val (.int hg), .unset, .unset, .unset, .unset, .unset, .unset, .unset, .unset, .unset] [(.ref b10), (.int (0 : Int32)), (.ref b8), (.int hg), (.int wd), (.int p1), (.int p0), (.long (0 : Int64)), (.ref b5), (.ref b5)])) rfl (by rw [hml]; rfl) (Steps.refl _) (a := b5) (argsL := [(.long (0 : Int64)), (.int p0), (.int p1), (.int wd), (.int hg), (.ref b8), (.int (0 : Int32)), (.ref b10)]) (rest := [(.ref b5)]) (lenOf pd5 rfl) rfl (by show 2 * 0 + _ ≤ _; exact Nat.le_of_eq rfl) (hb hby at_30) (fun _ _ => ⟨rfl, e10, (by decide : 5 + 0 ≤ _), (by decide : 24 + 0 ≤ _)⟩)
  dsimp only [Pt.U, Pt.locs, Pt.cells, Pt.slots] at X21 l21 y21 z21 st21 hQ21
  subst l21 y21 z21
  obtain ⟨rfl, N21q, K21, f21_0, f21_1, f21_2, f21_3, f21_4, f21_5⟩ := hQ21
  have N21 := Fr.app N3 N21q
  have hk22 := Nat.le_trans hk10 K21.1
  have Z23 : n0 ≤ T21.heap.size := Nat.le_trans Z11 K21.1
  obtain ⟨cq24, kq24, q24a, q24b, q24c⟩ := isOf hZ rfl f21_0
  obtain ⟨_, _, ⟨T24, L24, k24, n24⟩, -, X24, ⟨Lc24, hQ24, l24, y24, z24⟩, st24⟩ := X21.virtualBack hx (y := (⟨oN, "covers", "(II)Z"⟩ : MethodName)) (z := (⟨oN, "covers", "(II)Z"⟩ : MethodName)) hown (mvT hZ (ow hw 44 rfl)) (mvT hZ (ow hw 45 rfl)) (notFace_of_selects (args := #[]) (mvT hZ (ow hw 47 rfl))) (mvT hZ (ow hw 47 rfl)) (mvT hZ (ow hw 46 rfl)) (by decide) (backOf (W := 0) (rm5 l Z a0 hw [] b5 p4 p5 p0 p1 wd hg T21.heap n0 Z23 f21_2 f21_3 f21_4 f21_5) hZ (ow hw 48 rfl) (ow hw 7 rfl) (by decide) (by decide)) q24a q24c (g := (mkF m 41 #[.val (.int p0), .val (.int p1), .val (.int p2), .val (.int p3), .val (.int p4), .val (.int p5), .val (.int wd), .val (.int hg), .val (.ref b5), .unset, .unset, .unset, .unset, .unset, .unset, .unset, .unset] [(.int p5), (.int p4), (.ref b5)])) rfl (by rw [hml]; rfl) (Steps.refl _) (argsL := [(.int p4), (.int p5)]) (rest := []) (lenOf pd6 rfl) rfl (by show 2 * 0 + _ ≤ _; exact Nat.le_of_eq rfl) (hb hby at_41) (fun _ _ => ⟨rfl, rfl, (by decide : 5 + 0 ≤ _), (by decide : 24 + 0 ≤ _)⟩)
  dsimp only [Pt.U, Pt.locs, Pt.cells, Pt.slots] at X24 l24 y24 z24 st24 hQ24
  subst l24 y24 z24
  obtain ⟨rfl, N24q, e24⟩ := hQ24
  have N24 := Fr.app N21 N24q
  have pre25 : ∀ t, Steps p.tables e below (T24.setTop (mkF m 54 #[.val (.int p0), .val (.int p1), .val (.int p2), .val (.int p3), .val (.int p4), .val (.int p5), .val (.int wd), .val (.int hg), .val (.ref b5), .val (.int (own_b (¬ (p4 < p0) ∧ p4 < (p0 + wd) ∧ ¬ (p5 < p1) ∧ p5 < (p1 + hg)))), .val (.long ((p4.toInt64) - (p0.toInt64))), .second, .unset, .unset, .unset, .unset, .unset] [])) t → Steps p.tables e below (s₁.setTop (entryFrame m #[(.int p0), (.int p1), (.int p2), (.int p3), (.int p4), (.int p5)] maxLocals)) t := fun t k => pre4 t (by
    show Steps p.tables e below (T3.setTop (mkF m 14 #[.val (.int p0), .val (.int p1), .val (.int p2), .val (.int p3), .val (.int p4), .val (.int p5), .val (.int wd), .val (.int hg), .unset, .unset, .unset, .unset, .unset, .unset, .unset, .unset, .unset] [])) _
    refine st5 _ ?_
    show Steps p.tables e below (T5.setTop (mkF m 17 #[.val (.int p0), .val (.int p1), .val (.int p2), .val (.int p3), .val (.int p4), .val (.int p5), .val (.int wd), .val (.int hg), .unset, .unset, .unset, .unset, .unset, .unset, .unset, .unset, .unset] [(.ref b5)])) _
    refine XS.dup X5.here hx rfl (hb hby at_17) rfl rfl ?_
    show Steps p.tables e below (T5.setTop (mkF m 18 #[.val (.int p0), .val (.int p1), .val (.int p2), .val (.int p3), .val (.int p4), .val (.int p5), .val (.int wd), .val (.int hg), .unset, .unset, .unset, .unset, .unset, .unset, .unset, .unset, .unset] [(.ref b5), (.ref b5)])) _
    refine XS.lconst X5.here hx rfl (hb hby at_18) ?_
    show Steps p.tables e below (T5.setTop (mkF m 19 #[.val (.int p0), .val (.int p1), .val (.int p2), .val (.int p3), .val (.int p4), .val (.int p5), .val (.int wd), .val (.int hg), .unset, .unset, .unset, .unset, .unset, .unset, .unset, .unset, .unset] [(.long (0 : Int64)), (.ref b5), (.ref b5)])) _
    refine XS.iloadN X5.here hx rfl (hb hby at_19) rfl  ?_
    show Steps p.tables e below (T5.setTop (mkF m 20 #[.val (.int p0), .val (.int p1), .val (.int p2), .val (.int p3), .val (.int p4), .val (.int p5), .val (.int wd), .val (.int hg), .unset, .unset, .unset, .unset, .unset, .unset, .unset, .unset, .unset] [(.int p0), (.long (0 : Int64)), (.ref b5), (.ref b5)])) _
    refine XS.iloadN X5.here hx rfl (hb hby at_20) rfl  ?_
    show Steps p.tables e below (T5.setTop (mkF m 21 #[.val (.int p0), .val (.int p1), .val (.int p2), .val (.int p3), .val (.int p4), .val (.int p5), .val (.int wd), .val (.int hg), .unset, .unset, .unset, .unset, .unset, .unset, .unset, .unset, .unset] [(.int p1), (.int p0), (.long (0 : Int64)), (.ref b5), (.ref b5)])) _
    refine XS.iload X5.here hx rfl (hb hby at_21) rfl  ?_
    show Steps p.tables e below (T5.setTop (mkF m 23 #[.val (.int p0), .val (.int p1), .val (.int p2), .val (.int p3), .val (.int p4), .val (.int p5), .val (.int wd), .val (.int hg), .unset, .unset, .unset, .unset, .unset, .unset, .unset, .unset, .unset] [(.int wd), (.int p1), (.int p0), (.long (0 : Int64)), (.ref b5), (.ref b5)])) _
    refine XS.iload X5.here hx rfl (hb hby at_23) rfl  ?_
    show Steps p.tables e below (T5.setTop (mkF m 25 #[.val (.int p0), .val (.int p1), .val (.int p2), .val (.int p3), .val (.int p4), .val (.int p5), .val (.int wd), .val (.int hg), .unset, .unset, .unset, .unset, .unset, .unset, .unset, .unset, .unset] [(.int hg), (.int wd), (.int p1), (.int p0), (.long (0 : Int64)), (.ref b5), (.ref b5)])) _
    refine st8 _ ?_
    show Steps p.tables e below (T8.setTop (mkF m 27 #[.val (.int p0), .val (.int p1), .val (.int p2), .val (.int p3), .val (.int p4), .val (.int p5), .val (.int wd), .val (.int hg), .unset, .unset, .unset, .unset, .unset, .unset, .unset, .unset, .unset] [(.ref b8), (.int hg), (.int wd), (.int p1), (.int p0), (.long (0 : Int64)), (.ref b5), (.ref b5)])) _
    refine XS.iconst X8.here hx rfl (hb hby at_27) ?_
    show Steps p.tables e below (T8.setTop (mkF m 28 #[.val (.int p0), .val (.int p1), .val (.int p2), .val (.int p3), .val (.int p4), .val (.int p5), .val (.int wd), .val (.int hg), .unset, .unset, .unset, .unset, .unset, .unset, .unset, .unset, .unset] [(.int (0 : Int32)), (.ref b8), (.int hg), (.int wd), (.int p1), (.int p0), (.long (0 : Int64)), (.ref b5), (.ref b5)])) _
    refine st10 _ ?_
    show Steps p.tables e below (T10.setTop (mkF m 30 #[.val (.int p0), .val (.int p1), .val (.int p2), .val (.int p3), .val (.int p4), .val (.int p5), .val (.int wd), .val (.int hg), .unset, .unset, .unset, .unset, .unset, .unset, .unset, .unset, .unset] [(.ref b10), (.int (0 : Int32)), (.ref b8), (.int hg), (.int wd), (.int p1), (.int p0), (.long (0 : Int64)), (.ref b5), (.ref b5)])) _
    refine st21.trans ?_
    show Steps p.tables e below (T21.setTop (mkF m 33 #[.val (.int p0), .val (.int p1), .val (.int p2), .val (.int p3), .val (.int p4), .val (.int p5), .val (.int wd), .val (.int hg), .unset, .unset, .unset, .unset, .unset, .unset, .unset, .unset, .unset] [(.ref b5)])) _
    refine XS.astore X21.here hx rfl (hb hby at_33) rfl rfl (l' := #[.val (.int p0), .val (.int p1), .val (.int p2), .val (.int p3), .val (.int p4), .val (.int p5), .val (.int wd), .val (.int hg), .val (.ref b5), .unset, .unset, .unset, .unset, .unset, .unset, .unset, .unset]) rfl ?_
    show Steps p.tables e below (T21.setTop (mkF m 35 #[.val (.int p0), .val (.int p1), .val (.int p2), .val (.int p3), .val (.int p4), .val (.int p5), .val (.int wd), .val (.int hg), .val (.ref b5), .unset, .unset, .unset, .unset, .unset, .unset, .unset, .unset] [])) _
    refine XS.aload X21.here hx rfl (hb hby at_35) rfl rfl ?_
    show Steps p.tables e below (T21.setTop (mkF m 37 #[.val (.int p0), .val (.int p1), .val (.int p2), .val (.int p3), .val (.int p4), .val (.int p5), .val (.int wd), .val (.int hg), .val (.ref b5), .unset, .unset, .unset, .unset, .unset, .unset, .unset, .unset] [(.ref b5)])) _
    refine XS.iload X21.here hx rfl (hb hby at_37) rfl  ?_
    show Steps p.tables e below (T21.setTop (mkF m 39 #[.val (.int p0), .val (.int p1), .val (.int p2), .val (.int p3), .val (.int p4), .val (.int p5), .val (.int wd), .val (.int hg), .val (.ref b5), .unset, .unset, .unset, .unset, .unset, .unset, .unset, .unset] [(.int p4), (.ref b5)])) _
    refine XS.iload X21.here hx rfl (hb hby at_39) rfl  ?_
    show Steps p.tables e below (T21.setTop (mkF m 41 #[.val (.int p0), .val (.int p1), .val (.int p2), .val (.int p3), .val (.int p4), .val (.int p5), .val (.int wd), .val (.int hg), .val (.ref b5), .unset, .unset, .unset, .unset, .unset, .unset, .unset, .unset] [(.int p5), (.int p4), (.ref b5)])) _
    refine st24.trans ?_
    show Steps p.tables e below (T24.setTop (mkF m 44 #[.val (.int p0), .val (.int p1), .val (.int p2), .val (.int p3), .val (.int p4), .val (.int p5), .val (.int wd), .val (.int hg), .val (.ref b5), .unset, .unset, .unset, .unset, .unset, .unset, .unset, .unset] [(.int (own_b (¬ (p4 < p0) ∧ p4 < (p0 + wd) ∧ ¬ (p5 < p1) ∧ p5 < (p1 + hg))))])) _
    refine XS.istore X24.here hx rfl (hb hby at_44) rfl (l' := #[.val (.int p0), .val (.int p1), .val (.int p2), .val (.int p3), .val (.int p4), .val (.int p5), .val (.int wd), .val (.int hg), .val (.ref b5), .val (.int (own_b (¬ (p4 < p0) ∧ p4 < (p0 + wd) ∧ ¬ (p5 < p1) ∧ p5 < (p1 + hg)))), .unset, .unset, .unset, .unset, .unset, .unset, .unset]) rfl ?_
    show Steps p.tables e below (T24.setTop (mkF m 46 #[.val (.int p0), .val (.int p1), .val (.int p2), .val (.int p3), .val (.int p4), .val (.int p5), .val (.int wd), .val (.int hg), .val (.ref b5), .val (.int (own_b (¬ (p4 < p0) ∧ p4 < (p0 + wd) ∧ ¬ (p5 < p1) ∧ p5 < (p1 + hg)))), .unset, .unset, .unset, .unset, .unset, .unset, .unset] [])) _
    refine XS.iload X24.here hx rfl (hb hby at_46) rfl  ?_
    show Steps p.tables e below (T24.setTop (mkF m 48 #[.val (.int p0), .val (.int p1), .val (.int p2), .val (.int p3), .val (.int p4), .val (.int p5), .val (.int wd), .val (.int hg), .val (.ref b5), .val (.int (own_b (¬ (p4 < p0) ∧ p4 < (p0 + wd) ∧ ¬ (p5 < p1) ∧ p5 < (p1 + hg)))), .unset, .unset, .unset, .unset, .unset, .unset, .unset] [(.int p4)])) _
    refine XS.i2l X24.here hx rfl (hb hby at_48) rfl ?_
    show Steps p.tables e below (T24.setTop (mkF m 49 #[.val (.int p0), .val (.int p1), .val (.int p2), .val (.int p3), .val (.int p4), .val (.int p5), .val (.int wd), .val (.int hg), .val (.ref b5), .val (.int (own_b (¬ (p4 < p0) ∧ p4 < (p0 + wd) ∧ ¬ (p5 < p1) ∧ p5 < (p1 + hg)))), .unset, .unset, .unset, .unset, .unset, .unset, .unset] [(.long (p4.toInt64))])) _
    refine XS.iloadN X24.here hx rfl (hb hby at_49) rfl  ?_
    show Steps p.tables e below (T24.setTop (mkF m 50 #[.val (.int p0), .val (.int p1), .val (.int p2), .val (.int p3), .val (.int p4), .val (.int p5), .val (.int wd), .val (.int hg), .val (.ref b5), .val (.int (own_b (¬ (p4 < p0) ∧ p4 < (p0 + wd) ∧ ¬ (p5 < p1) ∧ p5 < (p1 + hg)))), .unset, .unset, .unset, .unset, .unset, .unset, .unset] [(.int p0), (.long (p4.toInt64))])) _
    refine XS.i2l X24.here hx rfl (hb hby at_50) rfl ?_
    show Steps p.tables e below (T24.setTop (mkF m 51 #[.val (.int p0), .val (.int p1), .val (.int p2), .val (.int p3), .val (.int p4), .val (.int p5), .val (.int wd), .val (.int hg), .val (.ref b5), .val (.int (own_b (¬ (p4 < p0) ∧ p4 < (p0 + wd) ∧ ¬ (p5 < p1) ∧ p5 < (p1 + hg)))), .unset, .unset, .unset, .unset, .unset, .unset, .unset] [(.long (p0.toInt64)), (.long (p4.toInt64))])) _
    refine XS.lsub X24.here hx rfl (hb hby at_51) rfl ?_
    show Steps p.tables e below (T24.setTop (mkF m 52 #[.val (.int p0), .val (.int p1), .val (.int p2), .val (.int p3), .val (.int p4), .val (.int p5), .val (.int wd), .val (.int hg), .val (.ref b5), .val (.int (own_b (¬ (p4 < p0) ∧ p4 < (p0 + wd) ∧ ¬ (p5 < p1) ∧ p5 < (p1 + hg)))), .unset, .unset, .unset, .unset, .unset, .unset, .unset] [(.long ((p4.toInt64) - (p0.toInt64)))])) _
    refine XS.lstore X24.here hx rfl (hb hby at_52) rfl (l' := #[.val (.int p0), .val (.int p1), .val (.int p2), .val (.int p3), .val (.int p4), .val (.int p5), .val (.int wd), .val (.int hg), .val (.ref b5), .val (.int (own_b (¬ (p4 < p0) ∧ p4 < (p0 + wd) ∧ ¬ (p5 < p1) ∧ p5 < (p1 + hg)))), .val (.long ((p4.toInt64) - (p0.toInt64))), .second, .unset, .unset, .unset, .unset, .unset]) rfl ?_
    exact k)
  obtain ⟨dx, hdx⟩ : ∃ z, z = ((p4.toInt64) - (p0.toInt64)) := ⟨_, rfl⟩
  rw [← hdx] at pre25
  have pre26 : ∀ t, Steps p.tables e below (T24.setTop (mkF m 62 #[.val (.int p0), .val (.int p1), .val (.int p2), .val (.int p3), .val (.int p4), .val (.int p5), .val (.int wd), .val (.int hg), .val (.ref b5), .val (.int (own_b (¬ (p4 < p0) ∧ p4 < (p0 + wd) ∧ ¬ (p5 < p1) ∧ p5 < (p1 + hg)))), .val (.long dx), .second, .val (.long ((p5.toInt64) - (p1.toInt64))), .second, .unset, .unset, .unset] [])) t → Steps p.tables e below (s₁.setTop (entryFrame m #[(.int p0), (.int p1), (.int p2), (.int p3), (.int p4), (.int p5)] maxLocals)) t := fun t k => pre25 t (by
    show Steps p.tables e below (T24.setTop (mkF m 54 #[.val (.int p0), .val (.int p1), .val (.int p2), .val (.int p3), .val (.int p4), .val (.int p5), .val (.int wd), .val (.int hg), .val (.ref b5), .val (.int (own_b (¬ (p4 < p0) ∧ p4 < (p0 + wd) ∧ ¬ (p5 < p1) ∧ p5 < (p1 + hg)))), .val (.long dx), .second, .unset, .unset, .unset, .unset, .unset] [])) _
    refine XS.iload X24.here hx rfl (hb hby at_54) rfl  ?_
    show Steps p.tables e below (T24.setTop (mkF m 56 #[.val (.int p0), .val (.int p1), .val (.int p2), .val (.int p3), .val (.int p4), .val (.int p5), .val (.int wd), .val (.int hg), .val (.ref b5), .val (.int (own_b (¬ (p4 < p0) ∧ p4 < (p0 + wd) ∧ ¬ (p5 < p1) ∧ p5 < (p1 + hg)))), .val (.long dx), .second, .unset, .unset, .unset, .unset, .unset] [(.int p5)])) _
    refine XS.i2l X24.here hx rfl (hb hby at_56) rfl ?_
    show Steps p.tables e below (T24.setTop (mkF m 57 #[.val (.int p0), .val (.int p1), .val (.int p2), .val (.int p3), .val (.int p4), .val (.int p5), .val (.int wd), .val (.int hg), .val (.ref b5), .val (.int (own_b (¬ (p4 < p0) ∧ p4 < (p0 + wd) ∧ ¬ (p5 < p1) ∧ p5 < (p1 + hg)))), .val (.long dx), .second, .unset, .unset, .unset, .unset, .unset] [(.long (p5.toInt64))])) _
    refine XS.iloadN X24.here hx rfl (hb hby at_57) rfl  ?_
    show Steps p.tables e below (T24.setTop (mkF m 58 #[.val (.int p0), .val (.int p1), .val (.int p2), .val (.int p3), .val (.int p4), .val (.int p5), .val (.int wd), .val (.int hg), .val (.ref b5), .val (.int (own_b (¬ (p4 < p0) ∧ p4 < (p0 + wd) ∧ ¬ (p5 < p1) ∧ p5 < (p1 + hg)))), .val (.long dx), .second, .unset, .unset, .unset, .unset, .unset] [(.int p1), (.long (p5.toInt64))])) _
    refine XS.i2l X24.here hx rfl (hb hby at_58) rfl ?_
    show Steps p.tables e below (T24.setTop (mkF m 59 #[.val (.int p0), .val (.int p1), .val (.int p2), .val (.int p3), .val (.int p4), .val (.int p5), .val (.int wd), .val (.int hg), .val (.ref b5), .val (.int (own_b (¬ (p4 < p0) ∧ p4 < (p0 + wd) ∧ ¬ (p5 < p1) ∧ p5 < (p1 + hg)))), .val (.long dx), .second, .unset, .unset, .unset, .unset, .unset] [(.long (p1.toInt64)), (.long (p5.toInt64))])) _
    refine XS.lsub X24.here hx rfl (hb hby at_59) rfl ?_
    show Steps p.tables e below (T24.setTop (mkF m 60 #[.val (.int p0), .val (.int p1), .val (.int p2), .val (.int p3), .val (.int p4), .val (.int p5), .val (.int wd), .val (.int hg), .val (.ref b5), .val (.int (own_b (¬ (p4 < p0) ∧ p4 < (p0 + wd) ∧ ¬ (p5 < p1) ∧ p5 < (p1 + hg)))), .val (.long dx), .second, .unset, .unset, .unset, .unset, .unset] [(.long ((p5.toInt64) - (p1.toInt64)))])) _
    refine XS.lstore X24.here hx rfl (hb hby at_60) rfl (l' := #[.val (.int p0), .val (.int p1), .val (.int p2), .val (.int p3), .val (.int p4), .val (.int p5), .val (.int wd), .val (.int hg), .val (.ref b5), .val (.int (own_b (¬ (p4 < p0) ∧ p4 < (p0 + wd) ∧ ¬ (p5 < p1) ∧ p5 < (p1 + hg)))), .val (.long dx), .second, .val (.long ((p5.toInt64) - (p1.toInt64))), .second, .unset, .unset, .unset]) rfl ?_
    exact k)
  obtain ⟨dy, hdy⟩ : ∃ z, z = ((p5.toInt64) - (p1.toInt64)) := ⟨_, rfl⟩
  rw [← hdy] at pre26
  have pre27 : ∀ t, Steps p.tables e below (T24.setTop (mkF m 66 #[.val (.int p0), .val (.int p1), .val (.int p2), .val (.int p3), .val (.int p4), .val (.int p5), .val (.int wd), .val (.int hg), .val (.ref b5), .val (.int (own_b (¬ (p4 < p0) ∧ p4 < (p0 + wd) ∧ ¬ (p5 < p1) ∧ p5 < (p1 + hg)))), .val (.long dx), .second, .val (.long dy), .second, .unset, .unset, .unset] [(.int (lcmpW (0 : Int64) dx))])) t → Steps p.tables e below (s₁.setTop (entryFrame m #[(.int p0), (.int p1), (.int p2), (.int p3), (.int p4), (.int p5)] maxLocals)) t := fun t k => pre26 t (by
    show Steps p.tables e below (T24.setTop (mkF m 62 #[.val (.int p0), .val (.int p1), .val (.int p2), .val (.int p3), .val (.int p4), .val (.int p5), .val (.int wd), .val (.int hg), .val (.ref b5), .val (.int (own_b (¬ (p4 < p0) ∧ p4 < (p0 + wd) ∧ ¬ (p5 < p1) ∧ p5 < (p1 + hg)))), .val (.long dx), .second, .val (.long dy), .second, .unset, .unset, .unset] [])) _
    refine XS.lconst X24.here hx rfl (hb hby at_62) ?_
    show Steps p.tables e below (T24.setTop (mkF m 63 #[.val (.int p0), .val (.int p1), .val (.int p2), .val (.int p3), .val (.int p4), .val (.int p5), .val (.int wd), .val (.int hg), .val (.ref b5), .val (.int (own_b (¬ (p4 < p0) ∧ p4 < (p0 + wd) ∧ ¬ (p5 < p1) ∧ p5 < (p1 + hg)))), .val (.long dx), .second, .val (.long dy), .second, .unset, .unset, .unset] [(.long (0 : Int64))])) _
    refine XS.lload X24.here hx rfl (hb hby at_63) rfl  ?_
    show Steps p.tables e below (T24.setTop (mkF m 65 #[.val (.int p0), .val (.int p1), .val (.int p2), .val (.int p3), .val (.int p4), .val (.int p5), .val (.int wd), .val (.int hg), .val (.ref b5), .val (.int (own_b (¬ (p4 < p0) ∧ p4 < (p0 + wd) ∧ ¬ (p5 < p1) ∧ p5 < (p1 + hg)))), .val (.long dx), .second, .val (.long dy), .second, .unset, .unset, .unset] [(.long dx), (.long (0 : Int64))])) _
    refine XS.lcmp X24.here hx rfl (hb hby at_65) rfl ?_
    exact k)
  have pre30 : ∀ t, Steps p.tables e below (T24.setTop (mkF m 83 #[.val (.int p0), .val (.int p1), .val (.int p2), .val (.int p3), .val (.int p4), .val (.int p5), .val (.int wd), .val (.int hg), .val (.ref b5), .val (.int (own_b (¬ (p4 < p0) ∧ p4 < (p0 + wd) ∧ ¬ (p5 < p1) ∧ p5 < (p1 + hg)))), .val (.long dx), .second, .val (.long dy), .second, .unset, .unset, .unset] [(.int (own_b (¬ (dx < (0 : Int64)) ∧ dx < (wd.toInt64))))])) t → Steps p.tables e below (s₁.setTop (entryFrame m #[(.int p0), (.int p1), (.int p2), (.int p3), (.int p4), (.int p5)] maxLocals)) t := fun t k => pre27 t (by
    by_cases hc28 : dx < (0 : Int64)
    ·  -- yes
      show Steps p.tables e below (T24.setTop (mkF m 66 #[.val (.int p0), .val (.int p1), .val (.int p2), .val (.int p3), .val (.int p4), .val (.int p5), .val (.int wd), .val (.int hg), .val (.ref b5), .val (.int (own_b (¬ (p4 < p0) ∧ p4 < (p0 + wd) ∧ ¬ (p5 < p1) ∧ p5 < (p1 + hg)))), .val (.long dx), .second, .val (.long dy), .second, .unset, .unset, .unset] [(.int (lcmpW (0 : Int64) dx))])) _
      refine XS.ifYes X24.here hx rfl (pc0 := 66) (pc' := 82) rfl (hb hby at_66) rfl ((if0 _ _).trans (tlt ((lw_gt _ _).mpr hc28)).2.2.1) (by decide) (by decide) ?_
      show Steps p.tables e below (T24.setTop (mkF m 82 #[.val (.int p0), .val (.int p1), .val (.int p2), .val (.int p3), .val (.int p4), .val (.int p5), .val (.int wd), .val (.int hg), .val (.ref b5), .val (.int (own_b (¬ (p4 < p0) ∧ p4 < (p0 + wd) ∧ ¬ (p5 < p1) ∧ p5 < (p1 + hg)))), .val (.long dx), .second, .val (.long dy), .second, .unset, .unset, .unset] [])) _
      refine XS.iconst X24.here hx rfl (hb hby at_82) ?_
      have ek : (own_b (¬ (dx < (0 : Int64)) ∧ dx < (wd.toInt64))) = (0 : Int32) := by first | (simp only [own_b, eq_true hc28, and_true, true_and, and_false, false_and, or_true, true_or, or_false, false_or, not_true_eq_false, not_false_eq_true, if_true, if_false, reduceIte]; done) | (simp [own_b, hc28]; done)
      rw [ek] at k
      exact k
    ·  -- no
      show Steps p.tables e below (T24.setTop (mkF m 66 #[.val (.int p0), .val (.int p1), .val (.int p2), .val (.int p3), .val (.int p4), .val (.int p5), .val (.int wd), .val (.int hg), .val (.ref b5), .val (.int (own_b (¬ (p4 < p0) ∧ p4 < (p0 + wd) ∧ ¬ (p5 < p1) ∧ p5 < (p1 + hg)))), .val (.long dx), .second, .val (.long dy), .second, .unset, .unset, .unset] [(.int (lcmpW (0 : Int64) dx))])) _
      refine XS.ifNo X24.here hx rfl (hb hby at_66) rfl ((if0 _ _).trans (flt (fun q => hc28 ((lw_gt _ _).mp q))).2.2.1) ?_
      show Steps p.tables e below (T24.setTop (mkF m 69 #[.val (.int p0), .val (.int p1), .val (.int p2), .val (.int p3), .val (.int p4), .val (.int p5), .val (.int wd), .val (.int hg), .val (.ref b5), .val (.int (own_b (¬ (p4 < p0) ∧ p4 < (p0 + wd) ∧ ¬ (p5 < p1) ∧ p5 < (p1 + hg)))), .val (.long dx), .second, .val (.long dy), .second, .unset, .unset, .unset] [])) _
      refine XS.lload X24.here hx rfl (hb hby at_69) rfl  ?_
      show Steps p.tables e below (T24.setTop (mkF m 71 #[.val (.int p0), .val (.int p1), .val (.int p2), .val (.int p3), .val (.int p4), .val (.int p5), .val (.int wd), .val (.int hg), .val (.ref b5), .val (.int (own_b (¬ (p4 < p0) ∧ p4 < (p0 + wd) ∧ ¬ (p5 < p1) ∧ p5 < (p1 + hg)))), .val (.long dx), .second, .val (.long dy), .second, .unset, .unset, .unset] [(.long dx)])) _
      refine XS.iload X24.here hx rfl (hb hby at_71) rfl  ?_
      show Steps p.tables e below (T24.setTop (mkF m 73 #[.val (.int p0), .val (.int p1), .val (.int p2), .val (.int p3), .val (.int p4), .val (.int p5), .val (.int wd), .val (.int hg), .val (.ref b5), .val (.int (own_b (¬ (p4 < p0) ∧ p4 < (p0 + wd) ∧ ¬ (p5 < p1) ∧ p5 < (p1 + hg)))), .val (.long dx), .second, .val (.long dy), .second, .unset, .unset, .unset] [(.int wd), (.long dx)])) _
      refine XS.i2l X24.here hx rfl (hb hby at_73) rfl ?_
      show Steps p.tables e below (T24.setTop (mkF m 74 #[.val (.int p0), .val (.int p1), .val (.int p2), .val (.int p3), .val (.int p4), .val (.int p5), .val (.int wd), .val (.int hg), .val (.ref b5), .val (.int (own_b (¬ (p4 < p0) ∧ p4 < (p0 + wd) ∧ ¬ (p5 < p1) ∧ p5 < (p1 + hg)))), .val (.long dx), .second, .val (.long dy), .second, .unset, .unset, .unset] [(.long (wd.toInt64)), (.long dx)])) _
      refine XS.lcmp X24.here hx rfl (hb hby at_74) rfl ?_
      by_cases hc29 : dx < (wd.toInt64)
      ·  -- yes
        show Steps p.tables e below (T24.setTop (mkF m 75 #[.val (.int p0), .val (.int p1), .val (.int p2), .val (.int p3), .val (.int p4), .val (.int p5), .val (.int wd), .val (.int hg), .val (.ref b5), .val (.int (own_b (¬ (p4 < p0) ∧ p4 < (p0 + wd) ∧ ¬ (p5 < p1) ∧ p5 < (p1 + hg)))), .val (.long dx), .second, .val (.long dy), .second, .unset, .unset, .unset] [(.int (lcmpW dx (wd.toInt64)))])) _
        refine XS.ifNo X24.here hx rfl (hb hby at_75) rfl ((if0 _ _).trans (tlt ((lw_lt _ _).mpr hc29)).2.1) ?_
        show Steps p.tables e below (T24.setTop (mkF m 78 #[.val (.int p0), .val (.int p1), .val (.int p2), .val (.int p3), .val (.int p4), .val (.int p5), .val (.int wd), .val (.int hg), .val (.ref b5), .val (.int (own_b (¬ (p4 < p0) ∧ p4 < (p0 + wd) ∧ ¬ (p5 < p1) ∧ p5 < (p1 + hg)))), .val (.long dx), .second, .val (.long dy), .second, .unset, .unset, .unset] [])) _
        refine XS.iconst X24.here hx rfl (hb hby at_78) ?_
        show Steps p.tables e below (T24.setTop (mkF m 79 #[.val (.int p0), .val (.int p1), .val (.int p2), .val (.int p3), .val (.int p4), .val (.int p5), .val (.int wd), .val (.int hg), .val (.ref b5), .val (.int (own_b (¬ (p4 < p0) ∧ p4 < (p0 + wd) ∧ ¬ (p5 < p1) ∧ p5 < (p1 + hg)))), .val (.long dx), .second, .val (.long dy), .second, .unset, .unset, .unset] [(.int (1 : Int32))])) _
        refine XS.goto X24.here hx rfl (pc0 := 79) (pc' := 83) rfl (hb hby at_79) (by decide) (by decide) ?_
        have ek : (own_b (¬ (dx < (0 : Int64)) ∧ dx < (wd.toInt64))) = (1 : Int32) := by first | (simp only [own_b, eq_false hc28, eq_true hc29, and_true, true_and, and_false, false_and, or_true, true_or, or_false, false_or, not_true_eq_false, not_false_eq_true, if_true, if_false, reduceIte]; done) | (simp [own_b, hc28, hc29]; done)
        rw [ek] at k
        exact k
      ·  -- no
        show Steps p.tables e below (T24.setTop (mkF m 75 #[.val (.int p0), .val (.int p1), .val (.int p2), .val (.int p3), .val (.int p4), .val (.int p5), .val (.int wd), .val (.int hg), .val (.ref b5), .val (.int (own_b (¬ (p4 < p0) ∧ p4 < (p0 + wd) ∧ ¬ (p5 < p1) ∧ p5 < (p1 + hg)))), .val (.long dx), .second, .val (.long dy), .second, .unset, .unset, .unset] [(.int (lcmpW dx (wd.toInt64)))])) _
        refine XS.ifYes X24.here hx rfl (pc0 := 75) (pc' := 82) rfl (hb hby at_75) rfl ((if0 _ _).trans (flt (fun q => hc29 ((lw_lt _ _).mp q))).2.1) (by decide) (by decide) ?_
        show Steps p.tables e below (T24.setTop (mkF m 82 #[.val (.int p0), .val (.int p1), .val (.int p2), .val (.int p3), .val (.int p4), .val (.int p5), .val (.int wd), .val (.int hg), .val (.ref b5), .val (.int (own_b (¬ (p4 < p0) ∧ p4 < (p0 + wd) ∧ ¬ (p5 < p1) ∧ p5 < (p1 + hg)))), .val (.long dx), .second, .val (.long dy), .second, .unset, .unset, .unset] [])) _
        refine XS.iconst X24.here hx rfl (hb hby at_82) ?_
        have ek : (own_b (¬ (dx < (0 : Int64)) ∧ dx < (wd.toInt64))) = (0 : Int32) := by first | (simp only [own_b, eq_false hc28, eq_false hc29, and_true, true_and, and_false, false_and, or_true, true_or, or_false, false_or, not_true_eq_false, not_false_eq_true, if_true, if_false, reduceIte]; done) | (simp [own_b, hc28, hc29]; done)
        rw [ek] at k
        exact k)
  have pre31 : ∀ t, Steps p.tables e below (T24.setTop (mkF m 89 #[.val (.int p0), .val (.int p1), .val (.int p2), .val (.int p3), .val (.int p4), .val (.int p5), .val (.int wd), .val (.int hg), .val (.ref b5), .val (.int (own_b (¬ (p4 < p0) ∧ p4 < (p0 + wd) ∧ ¬ (p5 < p1) ∧ p5 < (p1 + hg)))), .val (.long dx), .second, .val (.long dy), .second, .val (.int (own_b (¬ (dx < (0 : Int64)) ∧ dx < (wd.toInt64)))), .unset, .unset] [(.int (lcmpW (0 : Int64) dy))])) t → Steps p.tables e below (s₁.setTop (entryFrame m #[(.int p0), (.int p1), (.int p2), (.int p3), (.int p4), (.int p5)] maxLocals)) t := fun t k => pre30 t (by
    show Steps p.tables e below (T24.setTop (mkF m 83 #[.val (.int p0), .val (.int p1), .val (.int p2), .val (.int p3), .val (.int p4), .val (.int p5), .val (.int wd), .val (.int hg), .val (.ref b5), .val (.int (own_b (¬ (p4 < p0) ∧ p4 < (p0 + wd) ∧ ¬ (p5 < p1) ∧ p5 < (p1 + hg)))), .val (.long dx), .second, .val (.long dy), .second, .unset, .unset, .unset] [(.int (own_b (¬ (dx < (0 : Int64)) ∧ dx < (wd.toInt64))))])) _
    refine XS.istore X24.here hx rfl (hb hby at_83) rfl (l' := #[.val (.int p0), .val (.int p1), .val (.int p2), .val (.int p3), .val (.int p4), .val (.int p5), .val (.int wd), .val (.int hg), .val (.ref b5), .val (.int (own_b (¬ (p4 < p0) ∧ p4 < (p0 + wd) ∧ ¬ (p5 < p1) ∧ p5 < (p1 + hg)))), .val (.long dx), .second, .val (.long dy), .second, .val (.int (own_b (¬ (dx < (0 : Int64)) ∧ dx < (wd.toInt64)))), .unset, .unset]) rfl ?_
    show Steps p.tables e below (T24.setTop (mkF m 85 #[.val (.int p0), .val (.int p1), .val (.int p2), .val (.int p3), .val (.int p4), .val (.int p5), .val (.int wd), .val (.int hg), .val (.ref b5), .val (.int (own_b (¬ (p4 < p0) ∧ p4 < (p0 + wd) ∧ ¬ (p5 < p1) ∧ p5 < (p1 + hg)))), .val (.long dx), .second, .val (.long dy), .second, .val (.int (own_b (¬ (dx < (0 : Int64)) ∧ dx < (wd.toInt64)))), .unset, .unset] [])) _
    refine XS.lconst X24.here hx rfl (hb hby at_85) ?_
    show Steps p.tables e below (T24.setTop (mkF m 86 #[.val (.int p0), .val (.int p1), .val (.int p2), .val (.int p3), .val (.int p4), .val (.int p5), .val (.int wd), .val (.int hg), .val (.ref b5), .val (.int (own_b (¬ (p4 < p0) ∧ p4 < (p0 + wd) ∧ ¬ (p5 < p1) ∧ p5 < (p1 + hg)))), .val (.long dx), .second, .val (.long dy), .second, .val (.int (own_b (¬ (dx < (0 : Int64)) ∧ dx < (wd.toInt64)))), .unset, .unset] [(.long (0 : Int64))])) _
    refine XS.lload X24.here hx rfl (hb hby at_86) rfl  ?_
    show Steps p.tables e below (T24.setTop (mkF m 88 #[.val (.int p0), .val (.int p1), .val (.int p2), .val (.int p3), .val (.int p4), .val (.int p5), .val (.int wd), .val (.int hg), .val (.ref b5), .val (.int (own_b (¬ (p4 < p0) ∧ p4 < (p0 + wd) ∧ ¬ (p5 < p1) ∧ p5 < (p1 + hg)))), .val (.long dx), .second, .val (.long dy), .second, .val (.int (own_b (¬ (dx < (0 : Int64)) ∧ dx < (wd.toInt64)))), .unset, .unset] [(.long dy), (.long (0 : Int64))])) _
    refine XS.lcmp X24.here hx rfl (hb hby at_88) rfl ?_
    exact k)
  have pre34 : ∀ t, Steps p.tables e below (T24.setTop (mkF m 106 #[.val (.int p0), .val (.int p1), .val (.int p2), .val (.int p3), .val (.int p4), .val (.int p5), .val (.int wd), .val (.int hg), .val (.ref b5), .val (.int (own_b (¬ (p4 < p0) ∧ p4 < (p0 + wd) ∧ ¬ (p5 < p1) ∧ p5 < (p1 + hg)))), .val (.long dx), .second, .val (.long dy), .second, .val (.int (own_b (¬ (dx < (0 : Int64)) ∧ dx < (wd.toInt64)))), .unset, .unset] [(.int (own_b (¬ (dy < (0 : Int64)) ∧ dy < (hg.toInt64))))])) t → Steps p.tables e below (s₁.setTop (entryFrame m #[(.int p0), (.int p1), (.int p2), (.int p3), (.int p4), (.int p5)] maxLocals)) t := fun t k => pre31 t (by
    by_cases hc32 : dy < (0 : Int64)
    ·  -- yes
      show Steps p.tables e below (T24.setTop (mkF m 89 #[.val (.int p0), .val (.int p1), .val (.int p2), .val (.int p3), .val (.int p4), .val (.int p5), .val (.int wd), .val (.int hg), .val (.ref b5), .val (.int (own_b (¬ (p4 < p0) ∧ p4 < (p0 + wd) ∧ ¬ (p5 < p1) ∧ p5 < (p1 + hg)))), .val (.long dx), .second, .val (.long dy), .second, .val (.int (own_b (¬ (dx < (0 : Int64)) ∧ dx < (wd.toInt64)))), .unset, .unset] [(.int (lcmpW (0 : Int64) dy))])) _
      refine XS.ifYes X24.here hx rfl (pc0 := 89) (pc' := 105) rfl (hb hby at_89) rfl ((if0 _ _).trans (tlt ((lw_gt _ _).mpr hc32)).2.2.1) (by decide) (by decide) ?_
      show Steps p.tables e below (T24.setTop (mkF m 105 #[.val (.int p0), .val (.int p1), .val (.int p2), .val (.int p3), .val (.int p4), .val (.int p5), .val (.int wd), .val (.int hg), .val (.ref b5), .val (.int (own_b (¬ (p4 < p0) ∧ p4 < (p0 + wd) ∧ ¬ (p5 < p1) ∧ p5 < (p1 + hg)))), .val (.long dx), .second, .val (.long dy), .second, .val (.int (own_b (¬ (dx < (0 : Int64)) ∧ dx < (wd.toInt64)))), .unset, .unset] [])) _
      refine XS.iconst X24.here hx rfl (hb hby at_105) ?_
      have ek : (own_b (¬ (dy < (0 : Int64)) ∧ dy < (hg.toInt64))) = (0 : Int32) := by first | (simp only [own_b, eq_true hc32, and_true, true_and, and_false, false_and, or_true, true_or, or_false, false_or, not_true_eq_false, not_false_eq_true, if_true, if_false, reduceIte]; done) | (simp [own_b, hc32]; done)
      rw [ek] at k
      exact k
    ·  -- no
      show Steps p.tables e below (T24.setTop (mkF m 89 #[.val (.int p0), .val (.int p1), .val (.int p2), .val (.int p3), .val (.int p4), .val (.int p5), .val (.int wd), .val (.int hg), .val (.ref b5), .val (.int (own_b (¬ (p4 < p0) ∧ p4 < (p0 + wd) ∧ ¬ (p5 < p1) ∧ p5 < (p1 + hg)))), .val (.long dx), .second, .val (.long dy), .second, .val (.int (own_b (¬ (dx < (0 : Int64)) ∧ dx < (wd.toInt64)))), .unset, .unset] [(.int (lcmpW (0 : Int64) dy))])) _
      refine XS.ifNo X24.here hx rfl (hb hby at_89) rfl ((if0 _ _).trans (flt (fun q => hc32 ((lw_gt _ _).mp q))).2.2.1) ?_
      show Steps p.tables e below (T24.setTop (mkF m 92 #[.val (.int p0), .val (.int p1), .val (.int p2), .val (.int p3), .val (.int p4), .val (.int p5), .val (.int wd), .val (.int hg), .val (.ref b5), .val (.int (own_b (¬ (p4 < p0) ∧ p4 < (p0 + wd) ∧ ¬ (p5 < p1) ∧ p5 < (p1 + hg)))), .val (.long dx), .second, .val (.long dy), .second, .val (.int (own_b (¬ (dx < (0 : Int64)) ∧ dx < (wd.toInt64)))), .unset, .unset] [])) _
      refine XS.lload X24.here hx rfl (hb hby at_92) rfl  ?_
      show Steps p.tables e below (T24.setTop (mkF m 94 #[.val (.int p0), .val (.int p1), .val (.int p2), .val (.int p3), .val (.int p4), .val (.int p5), .val (.int wd), .val (.int hg), .val (.ref b5), .val (.int (own_b (¬ (p4 < p0) ∧ p4 < (p0 + wd) ∧ ¬ (p5 < p1) ∧ p5 < (p1 + hg)))), .val (.long dx), .second, .val (.long dy), .second, .val (.int (own_b (¬ (dx < (0 : Int64)) ∧ dx < (wd.toInt64)))), .unset, .unset] [(.long dy)])) _
      refine XS.iload X24.here hx rfl (hb hby at_94) rfl  ?_
      show Steps p.tables e below (T24.setTop (mkF m 96 #[.val (.int p0), .val (.int p1), .val (.int p2), .val (.int p3), .val (.int p4), .val (.int p5), .val (.int wd), .val (.int hg), .val (.ref b5), .val (.int (own_b (¬ (p4 < p0) ∧ p4 < (p0 + wd) ∧ ¬ (p5 < p1) ∧ p5 < (p1 + hg)))), .val (.long dx), .second, .val (.long dy), .second, .val (.int (own_b (¬ (dx < (0 : Int64)) ∧ dx < (wd.toInt64)))), .unset, .unset] [(.int hg), (.long dy)])) _
      refine XS.i2l X24.here hx rfl (hb hby at_96) rfl ?_
      show Steps p.tables e below (T24.setTop (mkF m 97 #[.val (.int p0), .val (.int p1), .val (.int p2), .val (.int p3), .val (.int p4), .val (.int p5), .val (.int wd), .val (.int hg), .val (.ref b5), .val (.int (own_b (¬ (p4 < p0) ∧ p4 < (p0 + wd) ∧ ¬ (p5 < p1) ∧ p5 < (p1 + hg)))), .val (.long dx), .second, .val (.long dy), .second, .val (.int (own_b (¬ (dx < (0 : Int64)) ∧ dx < (wd.toInt64)))), .unset, .unset] [(.long (hg.toInt64)), (.long dy)])) _
      refine XS.lcmp X24.here hx rfl (hb hby at_97) rfl ?_
      by_cases hc33 : dy < (hg.toInt64)
      ·  -- yes
        show Steps p.tables e below (T24.setTop (mkF m 98 #[.val (.int p0), .val (.int p1), .val (.int p2), .val (.int p3), .val (.int p4), .val (.int p5), .val (.int wd), .val (.int hg), .val (.ref b5), .val (.int (own_b (¬ (p4 < p0) ∧ p4 < (p0 + wd) ∧ ¬ (p5 < p1) ∧ p5 < (p1 + hg)))), .val (.long dx), .second, .val (.long dy), .second, .val (.int (own_b (¬ (dx < (0 : Int64)) ∧ dx < (wd.toInt64)))), .unset, .unset] [(.int (lcmpW dy (hg.toInt64)))])) _
        refine XS.ifNo X24.here hx rfl (hb hby at_98) rfl ((if0 _ _).trans (tlt ((lw_lt _ _).mpr hc33)).2.1) ?_
        show Steps p.tables e below (T24.setTop (mkF m 101 #[.val (.int p0), .val (.int p1), .val (.int p2), .val (.int p3), .val (.int p4), .val (.int p5), .val (.int wd), .val (.int hg), .val (.ref b5), .val (.int (own_b (¬ (p4 < p0) ∧ p4 < (p0 + wd) ∧ ¬ (p5 < p1) ∧ p5 < (p1 + hg)))), .val (.long dx), .second, .val (.long dy), .second, .val (.int (own_b (¬ (dx < (0 : Int64)) ∧ dx < (wd.toInt64)))), .unset, .unset] [])) _
        refine XS.iconst X24.here hx rfl (hb hby at_101) ?_
        show Steps p.tables e below (T24.setTop (mkF m 102 #[.val (.int p0), .val (.int p1), .val (.int p2), .val (.int p3), .val (.int p4), .val (.int p5), .val (.int wd), .val (.int hg), .val (.ref b5), .val (.int (own_b (¬ (p4 < p0) ∧ p4 < (p0 + wd) ∧ ¬ (p5 < p1) ∧ p5 < (p1 + hg)))), .val (.long dx), .second, .val (.long dy), .second, .val (.int (own_b (¬ (dx < (0 : Int64)) ∧ dx < (wd.toInt64)))), .unset, .unset] [(.int (1 : Int32))])) _
        refine XS.goto X24.here hx rfl (pc0 := 102) (pc' := 106) rfl (hb hby at_102) (by decide) (by decide) ?_
        have ek : (own_b (¬ (dy < (0 : Int64)) ∧ dy < (hg.toInt64))) = (1 : Int32) := by first | (simp only [own_b, eq_false hc32, eq_true hc33, and_true, true_and, and_false, false_and, or_true, true_or, or_false, false_or, not_true_eq_false, not_false_eq_true, if_true, if_false, reduceIte]; done) | (simp [own_b, hc32, hc33]; done)
        rw [ek] at k
        exact k
      ·  -- no
        show Steps p.tables e below (T24.setTop (mkF m 98 #[.val (.int p0), .val (.int p1), .val (.int p2), .val (.int p3), .val (.int p4), .val (.int p5), .val (.int wd), .val (.int hg), .val (.ref b5), .val (.int (own_b (¬ (p4 < p0) ∧ p4 < (p0 + wd) ∧ ¬ (p5 < p1) ∧ p5 < (p1 + hg)))), .val (.long dx), .second, .val (.long dy), .second, .val (.int (own_b (¬ (dx < (0 : Int64)) ∧ dx < (wd.toInt64)))), .unset, .unset] [(.int (lcmpW dy (hg.toInt64)))])) _
        refine XS.ifYes X24.here hx rfl (pc0 := 98) (pc' := 105) rfl (hb hby at_98) rfl ((if0 _ _).trans (flt (fun q => hc33 ((lw_lt _ _).mp q))).2.1) (by decide) (by decide) ?_
        show Steps p.tables e below (T24.setTop (mkF m 105 #[.val (.int p0), .val (.int p1), .val (.int p2), .val (.int p3), .val (.int p4), .val (.int p5), .val (.int wd), .val (.int hg), .val (.ref b5), .val (.int (own_b (¬ (p4 < p0) ∧ p4 < (p0 + wd) ∧ ¬ (p5 < p1) ∧ p5 < (p1 + hg)))), .val (.long dx), .second, .val (.long dy), .second, .val (.int (own_b (¬ (dx < (0 : Int64)) ∧ dx < (wd.toInt64)))), .unset, .unset] [])) _
        refine XS.iconst X24.here hx rfl (hb hby at_105) ?_
        have ek : (own_b (¬ (dy < (0 : Int64)) ∧ dy < (hg.toInt64))) = (0 : Int32) := by first | (simp only [own_b, eq_false hc32, eq_false hc33, and_true, true_and, and_false, false_and, or_true, true_or, or_false, false_or, not_true_eq_false, not_false_eq_true, if_true, if_false, reduceIte]; done) | (simp [own_b, hc32, hc33]; done)
        rw [ek] at k
        exact k)
  have pre35 : ∀ t, Steps p.tables e below (T24.setTop (mkF m 110 #[.val (.int p0), .val (.int p1), .val (.int p2), .val (.int p3), .val (.int p4), .val (.int p5), .val (.int wd), .val (.int hg), .val (.ref b5), .val (.int (own_b (¬ (p4 < p0) ∧ p4 < (p0 + wd) ∧ ¬ (p5 < p1) ∧ p5 < (p1 + hg)))), .val (.long dx), .second, .val (.long dy), .second, .val (.int (own_b (¬ (dx < (0 : Int64)) ∧ dx < (wd.toInt64)))), .val (.int (own_b (¬ (dy < (0 : Int64)) ∧ dy < (hg.toInt64)))), .unset] [(.int (own_b (¬ (dx < (0 : Int64)) ∧ dx < (wd.toInt64))))])) t → Steps p.tables e below (s₁.setTop (entryFrame m #[(.int p0), (.int p1), (.int p2), (.int p3), (.int p4), (.int p5)] maxLocals)) t := fun t k => pre34 t (by
    show Steps p.tables e below (T24.setTop (mkF m 106 #[.val (.int p0), .val (.int p1), .val (.int p2), .val (.int p3), .val (.int p4), .val (.int p5), .val (.int wd), .val (.int hg), .val (.ref b5), .val (.int (own_b (¬ (p4 < p0) ∧ p4 < (p0 + wd) ∧ ¬ (p5 < p1) ∧ p5 < (p1 + hg)))), .val (.long dx), .second, .val (.long dy), .second, .val (.int (own_b (¬ (dx < (0 : Int64)) ∧ dx < (wd.toInt64)))), .unset, .unset] [(.int (own_b (¬ (dy < (0 : Int64)) ∧ dy < (hg.toInt64))))])) _
    refine XS.istore X24.here hx rfl (hb hby at_106) rfl (l' := #[.val (.int p0), .val (.int p1), .val (.int p2), .val (.int p3), .val (.int p4), .val (.int p5), .val (.int wd), .val (.int hg), .val (.ref b5), .val (.int (own_b (¬ (p4 < p0) ∧ p4 < (p0 + wd) ∧ ¬ (p5 < p1) ∧ p5 < (p1 + hg)))), .val (.long dx), .second, .val (.long dy), .second, .val (.int (own_b (¬ (dx < (0 : Int64)) ∧ dx < (wd.toInt64)))), .val (.int (own_b (¬ (dy < (0 : Int64)) ∧ dy < (hg.toInt64)))), .unset]) rfl ?_
    show Steps p.tables e below (T24.setTop (mkF m 108 #[.val (.int p0), .val (.int p1), .val (.int p2), .val (.int p3), .val (.int p4), .val (.int p5), .val (.int wd), .val (.int hg), .val (.ref b5), .val (.int (own_b (¬ (p4 < p0) ∧ p4 < (p0 + wd) ∧ ¬ (p5 < p1) ∧ p5 < (p1 + hg)))), .val (.long dx), .second, .val (.long dy), .second, .val (.int (own_b (¬ (dx < (0 : Int64)) ∧ dx < (wd.toInt64)))), .val (.int (own_b (¬ (dy < (0 : Int64)) ∧ dy < (hg.toInt64)))), .unset] [])) _
    refine XS.iload X24.here hx rfl (hb hby at_108) rfl  ?_
    exact k)
  have pre38 : ∀ t, Steps p.tables e below (T24.setTop (mkF m 123 #[.val (.int p0), .val (.int p1), .val (.int p2), .val (.int p3), .val (.int p4), .val (.int p5), .val (.int wd), .val (.int hg), .val (.ref b5), .val (.int (own_b (¬ (p4 < p0) ∧ p4 < (p0 + wd) ∧ ¬ (p5 < p1) ∧ p5 < (p1 + hg)))), .val (.long dx), .second, .val (.long dy), .second, .val (.int (own_b (¬ (dx < (0 : Int64)) ∧ dx < (wd.toInt64)))), .val (.int (own_b (¬ (dy < (0 : Int64)) ∧ dy < (hg.toInt64)))), .unset] [(.int (own_b ((¬ (dx < (0 : Int64)) ∧ dx < (wd.toInt64)) ∧ (¬ (dy < (0 : Int64)) ∧ dy < (hg.toInt64)))))])) t → Steps p.tables e below (s₁.setTop (entryFrame m #[(.int p0), (.int p1), (.int p2), (.int p3), (.int p4), (.int p5)] maxLocals)) t := fun t k => pre35 t (by
    by_cases hc36 : (¬ (dx < (0 : Int64)) ∧ dx < (wd.toInt64))
    ·  -- yes
      show Steps p.tables e below (T24.setTop (mkF m 110 #[.val (.int p0), .val (.int p1), .val (.int p2), .val (.int p3), .val (.int p4), .val (.int p5), .val (.int wd), .val (.int hg), .val (.ref b5), .val (.int (own_b (¬ (p4 < p0) ∧ p4 < (p0 + wd) ∧ ¬ (p5 < p1) ∧ p5 < (p1 + hg)))), .val (.long dx), .second, .val (.long dy), .second, .val (.int (own_b (¬ (dx < (0 : Int64)) ∧ dx < (wd.toInt64)))), .val (.int (own_b (¬ (dy < (0 : Int64)) ∧ dy < (hg.toInt64)))), .unset] [(.int (own_b (¬ (dx < (0 : Int64)) ∧ dx < (wd.toInt64))))])) _
      refine XS.ifNo X24.here hx rfl (hb hby at_110) rfl ((if0 _ _).trans (feq (own_b_nz hc36)).1) ?_
      show Steps p.tables e below (T24.setTop (mkF m 113 #[.val (.int p0), .val (.int p1), .val (.int p2), .val (.int p3), .val (.int p4), .val (.int p5), .val (.int wd), .val (.int hg), .val (.ref b5), .val (.int (own_b (¬ (p4 < p0) ∧ p4 < (p0 + wd) ∧ ¬ (p5 < p1) ∧ p5 < (p1 + hg)))), .val (.long dx), .second, .val (.long dy), .second, .val (.int (own_b (¬ (dx < (0 : Int64)) ∧ dx < (wd.toInt64)))), .val (.int (own_b (¬ (dy < (0 : Int64)) ∧ dy < (hg.toInt64)))), .unset] [])) _
      refine XS.iload X24.here hx rfl (hb hby at_113) rfl  ?_
      by_cases hc37 : (¬ (dy < (0 : Int64)) ∧ dy < (hg.toInt64))
      ·  -- yes
        show Steps p.tables e below (T24.setTop (mkF m 115 #[.val (.int p0), .val (.int p1), .val (.int p2), .val (.int p3), .val (.int p4), .val (.int p5), .val (.int wd), .val (.int hg), .val (.ref b5), .val (.int (own_b (¬ (p4 < p0) ∧ p4 < (p0 + wd) ∧ ¬ (p5 < p1) ∧ p5 < (p1 + hg)))), .val (.long dx), .second, .val (.long dy), .second, .val (.int (own_b (¬ (dx < (0 : Int64)) ∧ dx < (wd.toInt64)))), .val (.int (own_b (¬ (dy < (0 : Int64)) ∧ dy < (hg.toInt64)))), .unset] [(.int (own_b (¬ (dy < (0 : Int64)) ∧ dy < (hg.toInt64))))])) _
        refine XS.ifNo X24.here hx rfl (hb hby at_115) rfl ((if0 _ _).trans (feq (own_b_nz hc37)).1) ?_
        show Steps p.tables e below (T24.setTop (mkF m 118 #[.val (.int p0), .val (.int p1), .val (.int p2), .val (.int p3), .val (.int p4), .val (.int p5), .val (.int wd), .val (.int hg), .val (.ref b5), .val (.int (own_b (¬ (p4 < p0) ∧ p4 < (p0 + wd) ∧ ¬ (p5 < p1) ∧ p5 < (p1 + hg)))), .val (.long dx), .second, .val (.long dy), .second, .val (.int (own_b (¬ (dx < (0 : Int64)) ∧ dx < (wd.toInt64)))), .val (.int (own_b (¬ (dy < (0 : Int64)) ∧ dy < (hg.toInt64)))), .unset] [])) _
        refine XS.iconst X24.here hx rfl (hb hby at_118) ?_
        show Steps p.tables e below (T24.setTop (mkF m 119 #[.val (.int p0), .val (.int p1), .val (.int p2), .val (.int p3), .val (.int p4), .val (.int p5), .val (.int wd), .val (.int hg), .val (.ref b5), .val (.int (own_b (¬ (p4 < p0) ∧ p4 < (p0 + wd) ∧ ¬ (p5 < p1) ∧ p5 < (p1 + hg)))), .val (.long dx), .second, .val (.long dy), .second, .val (.int (own_b (¬ (dx < (0 : Int64)) ∧ dx < (wd.toInt64)))), .val (.int (own_b (¬ (dy < (0 : Int64)) ∧ dy < (hg.toInt64)))), .unset] [(.int (1 : Int32))])) _
        refine XS.goto X24.here hx rfl (pc0 := 119) (pc' := 123) rfl (hb hby at_119) (by decide) (by decide) ?_
        have ek : (own_b ((¬ (dx < (0 : Int64)) ∧ dx < (wd.toInt64)) ∧ (¬ (dy < (0 : Int64)) ∧ dy < (hg.toInt64)))) = (1 : Int32) := by first | (simp only [own_b, eq_true hc36, eq_true hc37, and_true, true_and, and_false, false_and, or_true, true_or, or_false, false_or, not_true_eq_false, not_false_eq_true, if_true, if_false, reduceIte]; done) | (simp [own_b, hc36, hc37]; done)
        rw [ek] at k
        exact k
      ·  -- no
        show Steps p.tables e below (T24.setTop (mkF m 115 #[.val (.int p0), .val (.int p1), .val (.int p2), .val (.int p3), .val (.int p4), .val (.int p5), .val (.int wd), .val (.int hg), .val (.ref b5), .val (.int (own_b (¬ (p4 < p0) ∧ p4 < (p0 + wd) ∧ ¬ (p5 < p1) ∧ p5 < (p1 + hg)))), .val (.long dx), .second, .val (.long dy), .second, .val (.int (own_b (¬ (dx < (0 : Int64)) ∧ dx < (wd.toInt64)))), .val (.int (own_b (¬ (dy < (0 : Int64)) ∧ dy < (hg.toInt64)))), .unset] [(.int (own_b (¬ (dy < (0 : Int64)) ∧ dy < (hg.toInt64))))])) _
        refine XS.ifYes X24.here hx rfl (pc0 := 115) (pc' := 122) rfl (hb hby at_115) rfl ((if0 _ _).trans (teq (own_b_f hc37)).1) (by decide) (by decide) ?_
        show Steps p.tables e below (T24.setTop (mkF m 122 #[.val (.int p0), .val (.int p1), .val (.int p2), .val (.int p3), .val (.int p4), .val (.int p5), .val (.int wd), .val (.int hg), .val (.ref b5), .val (.int (own_b (¬ (p4 < p0) ∧ p4 < (p0 + wd) ∧ ¬ (p5 < p1) ∧ p5 < (p1 + hg)))), .val (.long dx), .second, .val (.long dy), .second, .val (.int (own_b (¬ (dx < (0 : Int64)) ∧ dx < (wd.toInt64)))), .val (.int (own_b (¬ (dy < (0 : Int64)) ∧ dy < (hg.toInt64)))), .unset] [])) _
        refine XS.iconst X24.here hx rfl (hb hby at_122) ?_
        have ek : (own_b ((¬ (dx < (0 : Int64)) ∧ dx < (wd.toInt64)) ∧ (¬ (dy < (0 : Int64)) ∧ dy < (hg.toInt64)))) = (0 : Int32) := by first | (simp only [own_b, eq_true hc36, eq_false hc37, and_true, true_and, and_false, false_and, or_true, true_or, or_false, false_or, not_true_eq_false, not_false_eq_true, if_true, if_false, reduceIte]; done) | (simp [own_b, hc36, hc37]; done)
        rw [ek] at k
        exact k
    ·  -- no
      show Steps p.tables e below (T24.setTop (mkF m 110 #[.val (.int p0), .val (.int p1), .val (.int p2), .val (.int p3), .val (.int p4), .val (.int p5), .val (.int wd), .val (.int hg), .val (.ref b5), .val (.int (own_b (¬ (p4 < p0) ∧ p4 < (p0 + wd) ∧ ¬ (p5 < p1) ∧ p5 < (p1 + hg)))), .val (.long dx), .second, .val (.long dy), .second, .val (.int (own_b (¬ (dx < (0 : Int64)) ∧ dx < (wd.toInt64)))), .val (.int (own_b (¬ (dy < (0 : Int64)) ∧ dy < (hg.toInt64)))), .unset] [(.int (own_b (¬ (dx < (0 : Int64)) ∧ dx < (wd.toInt64))))])) _
      refine XS.ifYes X24.here hx rfl (pc0 := 110) (pc' := 122) rfl (hb hby at_110) rfl ((if0 _ _).trans (teq (own_b_f hc36)).1) (by decide) (by decide) ?_
      show Steps p.tables e below (T24.setTop (mkF m 122 #[.val (.int p0), .val (.int p1), .val (.int p2), .val (.int p3), .val (.int p4), .val (.int p5), .val (.int wd), .val (.int hg), .val (.ref b5), .val (.int (own_b (¬ (p4 < p0) ∧ p4 < (p0 + wd) ∧ ¬ (p5 < p1) ∧ p5 < (p1 + hg)))), .val (.long dx), .second, .val (.long dy), .second, .val (.int (own_b (¬ (dx < (0 : Int64)) ∧ dx < (wd.toInt64)))), .val (.int (own_b (¬ (dy < (0 : Int64)) ∧ dy < (hg.toInt64)))), .unset] [])) _
      refine XS.iconst X24.here hx rfl (hb hby at_122) ?_
      have ek : (own_b ((¬ (dx < (0 : Int64)) ∧ dx < (wd.toInt64)) ∧ (¬ (dy < (0 : Int64)) ∧ dy < (hg.toInt64)))) = (0 : Int32) := by first | (simp only [own_b, eq_false hc36, and_true, true_and, and_false, false_and, or_true, true_or, or_false, false_or, not_true_eq_false, not_false_eq_true, if_true, if_false, reduceIte]; done) | (simp [own_b, hc36]; done)
      rw [ek] at k
      exact k)
  obtain ⟨fs, hr, hrun, hended, hRE⟩ := X24.leaveW hS10 (by rw [e24]; exact hk22) (v := some (.int (1 : Int32))) (fun h => by rw [Bd.returns] at h; cases h)
  refine ⟨_, _, pre38 _ ?_, hrun, hended, _, _, rfl, ?_, hRE.1, hRE.2.1, hRE.2.2.1, hRE.2.2.2.mono (by decide) (by decide)⟩
  · show Steps p.tables e below (T24.setTop (mkF m 123 #[.val (.int p0), .val (.int p1), .val (.int p2), .val (.int p3), .val (.int p4), .val (.int p5), .val (.int wd), .val (.int hg), .val (.ref b5), .val (.int (own_b (¬ (p4 < p0) ∧ p4 < (p0 + wd) ∧ ¬ (p5 < p1) ∧ p5 < (p1 + hg)))), .val (.long dx), .second, .val (.long dy), .second, .val (.int (own_b (¬ (dx < (0 : Int64)) ∧ dx < (wd.toInt64)))), .val (.int (own_b (¬ (dy < (0 : Int64)) ∧ dy < (hg.toInt64)))), .unset] [(.int (own_b ((¬ (dx < (0 : Int64)) ∧ dx < (wd.toInt64)) ∧ (¬ (dy < (0 : Int64)) ∧ dy < (hg.toInt64)))))])) _
    refine XS.istore X24.here hx rfl (hb hby at_123) rfl (l' := #[.val (.int p0), .val (.int p1), .val (.int p2), .val (.int p3), .val (.int p4), .val (.int p5), .val (.int wd), .val (.int hg), .val (.ref b5), .val (.int (own_b (¬ (p4 < p0) ∧ p4 < (p0 + wd) ∧ ¬ (p5 < p1) ∧ p5 < (p1 + hg)))), .val (.long dx), .second, .val (.long dy), .second, .val (.int (own_b (¬ (dx < (0 : Int64)) ∧ dx < (wd.toInt64)))), .val (.int (own_b (¬ (dy < (0 : Int64)) ∧ dy < (hg.toInt64)))), .val (.int (own_b ((¬ (dx < (0 : Int64)) ∧ dx < (wd.toInt64)) ∧ (¬ (dy < (0 : Int64)) ∧ dy < (hg.toInt64)))))]) rfl ?_
    show Steps p.tables e below (T24.setTop (mkF m 125 #[.val (.int p0), .val (.int p1), .val (.int p2), .val (.int p3), .val (.int p4), .val (.int p5), .val (.int wd), .val (.int hg), .val (.ref b5), .val (.int (own_b (¬ (p4 < p0) ∧ p4 < (p0 + wd) ∧ ¬ (p5 < p1) ∧ p5 < (p1 + hg)))), .val (.long dx), .second, .val (.long dy), .second, .val (.int (own_b (¬ (dx < (0 : Int64)) ∧ dx < (wd.toInt64)))), .val (.int (own_b (¬ (dy < (0 : Int64)) ∧ dy < (hg.toInt64)))), .val (.int (own_b ((¬ (dx < (0 : Int64)) ∧ dx < (wd.toInt64)) ∧ (¬ (dy < (0 : Int64)) ∧ dy < (hg.toInt64)))))] [])) _
    refine XS.iload X24.here hx rfl (hb hby at_125) rfl  ?_
    show Steps p.tables e below (T24.setTop (mkF m 127 #[.val (.int p0), .val (.int p1), .val (.int p2), .val (.int p3), .val (.int p4), .val (.int p5), .val (.int wd), .val (.int hg), .val (.ref b5), .val (.int (own_b (¬ (p4 < p0) ∧ p4 < (p0 + wd) ∧ ¬ (p5 < p1) ∧ p5 < (p1 + hg)))), .val (.long dx), .second, .val (.long dy), .second, .val (.int (own_b (¬ (dx < (0 : Int64)) ∧ dx < (wd.toInt64)))), .val (.int (own_b (¬ (dy < (0 : Int64)) ∧ dy < (hg.toInt64)))), .val (.int (own_b ((¬ (dx < (0 : Int64)) ∧ dx < (wd.toInt64)) ∧ (¬ (dy < (0 : Int64)) ∧ dy < (hg.toInt64)))))] [(.int (own_b (¬ (p4 < p0) ∧ p4 < (p0 + wd) ∧ ¬ (p5 < p1) ∧ p5 < (p1 + hg))))])) _
    refine XS.iload X24.here hx rfl (hb hby at_127) rfl  ?_
    show Steps p.tables e below (T24.setTop (mkF m 129 #[.val (.int p0), .val (.int p1), .val (.int p2), .val (.int p3), .val (.int p4), .val (.int p5), .val (.int wd), .val (.int hg), .val (.ref b5), .val (.int (own_b (¬ (p4 < p0) ∧ p4 < (p0 + wd) ∧ ¬ (p5 < p1) ∧ p5 < (p1 + hg)))), .val (.long dx), .second, .val (.long dy), .second, .val (.int (own_b (¬ (dx < (0 : Int64)) ∧ dx < (wd.toInt64)))), .val (.int (own_b (¬ (dy < (0 : Int64)) ∧ dy < (hg.toInt64)))), .val (.int (own_b ((¬ (dx < (0 : Int64)) ∧ dx < (wd.toInt64)) ∧ (¬ (dy < (0 : Int64)) ∧ dy < (hg.toInt64)))))] [(.int (own_b ((¬ (dx < (0 : Int64)) ∧ dx < (wd.toInt64)) ∧ (¬ (dy < (0 : Int64)) ∧ dy < (hg.toInt64))))), (.int (own_b (¬ (p4 < p0) ∧ p4 < (p0 + wd) ∧ ¬ (p5 < p1) ∧ p5 < (p1 + hg))))])) _
    refine XS.icmpNo X24.here hx rfl (hb hby at_129) rfl (teq (own_cov hwd hhg hdx hdy)).2 ?_
    show Steps p.tables e below (T24.setTop (mkF m 132 #[.val (.int p0), .val (.int p1), .val (.int p2), .val (.int p3), .val (.int p4), .val (.int p5), .val (.int wd), .val (.int hg), .val (.ref b5), .val (.int (own_b (¬ (p4 < p0) ∧ p4 < (p0 + wd) ∧ ¬ (p5 < p1) ∧ p5 < (p1 + hg)))), .val (.long dx), .second, .val (.long dy), .second, .val (.int (own_b (¬ (dx < (0 : Int64)) ∧ dx < (wd.toInt64)))), .val (.int (own_b (¬ (dy < (0 : Int64)) ∧ dy < (hg.toInt64)))), .val (.int (own_b ((¬ (dx < (0 : Int64)) ∧ dx < (wd.toInt64)) ∧ (¬ (dy < (0 : Int64)) ∧ dy < (hg.toInt64)))))] [])) _
    refine XS.iconst X24.here hx rfl (hb hby at_132) ?_
    show Steps p.tables e below (T24.setTop (mkF m 133 #[.val (.int p0), .val (.int p1), .val (.int p2), .val (.int p3), .val (.int p4), .val (.int p5), .val (.int wd), .val (.int hg), .val (.ref b5), .val (.int (own_b (¬ (p4 < p0) ∧ p4 < (p0 + wd) ∧ ¬ (p5 < p1) ∧ p5 < (p1 + hg)))), .val (.long dx), .second, .val (.long dy), .second, .val (.int (own_b (¬ (dx < (0 : Int64)) ∧ dx < (wd.toInt64)))), .val (.int (own_b (¬ (dy < (0 : Int64)) ∧ dy < (hg.toInt64)))), .val (.int (own_b ((¬ (dx < (0 : Int64)) ∧ dx < (wd.toInt64)) ∧ (¬ (dy < (0 : Int64)) ∧ dy < (hg.toInt64)))))] [(.int (1 : Int32))])) _
    refine XS.goto X24.here hx rfl (pc0 := 133) (pc' := 137) rfl (hb hby at_133) (by decide) (by decide) ?_
    show Steps p.tables e below (T24.setTop (mkF m 137 #[.val (.int p0), .val (.int p1), .val (.int p2), .val (.int p3), .val (.int p4), .val (.int p5), .val (.int wd), .val (.int hg), .val (.ref b5), .val (.int (own_b (¬ (p4 < p0) ∧ p4 < (p0 + wd) ∧ ¬ (p5 < p1) ∧ p5 < (p1 + hg)))), .val (.long dx), .second, .val (.long dy), .second, .val (.int (own_b (¬ (dx < (0 : Int64)) ∧ dx < (wd.toInt64)))), .val (.int (own_b (¬ (dy < (0 : Int64)) ∧ dy < (hg.toInt64)))), .val (.int (own_b ((¬ (dx < (0 : Int64)) ∧ dx < (wd.toInt64)) ∧ (¬ (dy < (0 : Int64)) ∧ dy < (hg.toInt64)))))] [(.int (1 : Int32))])) _
    exact retN X24 hx (t := .boolean) Bd.returns (by simp) (hb hby at_137) hr
  · show Q0 Z p0 p1 p2 p3 p4 p5 h0 n0 _ T24.heap _
    rw [e24]
    exact ⟨rfl, N24⟩
set_option maxRecDepth 65536 in
set_option maxHeartbeats 40000000 in
theorem comes_1 {Post : Tables → Env → Array Value → State → Outcome → State → Prop} (hpost : ∀ tb e args s v u, (limb_1_1.after args s (.returned v) u = true ∧ limb_1_2.after args s (.returned v) u = true ∧ True) → ReturnedEndW s (.returned v) u (Jvm.fieldLocs frame_1_writes args s ++ Jvm.arrayLocs frame_1_arrays args s ++ Jvm.staticLocs frame_1_statics s) 16 2176 → Post tb e args s (.returned v) u) :
    ArmFor flags0 classFile x code maxLocals ret World_1 tables_1 room_1 Calls_1 rest_1 Pre_1 Post := by
  intro l hfl _ _ p e ha hc hk s m args below hf hA hF happ hP
  obtain ⟨hcalls, hrest, hpre⟩ := hP
  obtain ⟨-, -, -, hnamed, -, -, -, hat⟩ := (Spec.applies_iff hf).mp happ
  obtain ⟨hg, hn⟩ := and_e (Cond.before_iff.mp (show (Jvm.Cond.and given_1 narrow_1).before args s = true from hpre))
  obtain ⟨g1, g2⟩ := and_e hg
  obtain ⟨g3, g4⟩ := and_e g2
  obtain ⟨g5, g6⟩ := and_e g4
  obtain ⟨g7, g8⟩ := and_e g6
  obtain ⟨g9, g10⟩ := and_e g8
  obtain ⟨g11, g12⟩ := and_e g10
  obtain ⟨w0, w1, w2, w3, w4, w5, rfl⟩ : ∃ w0 w1 w2 w3 w4 w5 : Value, args = #[w0, w1, w2, w3, w4, w5] := by
    have hs : args.size = 6 := by simpa [Cond.value, given_1] using g1
    obtain ⟨L⟩ := args
    match L, hs with
    | [w0, w1, w2, w3, w4, w5], _ => exact ⟨w0, w1, w2, w3, w4, w5, rfl⟩
  have hw := fun d (hd : d ∈ tables_1) => atoms_spec (ws := Jvm.Cond.code x code maxLocals ret :: tables_1) hat d (List.mem_cons_of_mem _ hd)
  have hfit : Fit s := fun {y c} hc i hi => by
    obtain ⟨ha, rfl⟩ := Array.getElem?_eq_some_iff.mp hc
    have q := List.all_eq_true.mp ((Array.all_eq_true_iff_forall_mem.mp hF) _ (Array.getElem_mem ha)) i (List.mem_range.mpr hi)
    simpa [Array.getElem?_eq_getElem hi] using q
  obtain ⟨i0, ei0⟩ := is_v g3
  obtain rfl : w0 = (.int i0) := Option.some.inj ei0
  obtain ⟨i1, ei1⟩ := is_v g5
  obtain rfl : w1 = (.int i1) := Option.some.inj ei1
  obtain ⟨i2, ei2⟩ := is_v g7
  obtain rfl : w2 = (.int i2) := Option.some.inj ei2
  obtain ⟨i3, ei3⟩ := is_v g9
  obtain rfl : w3 = (.int i3) := Option.some.inj ei3
  obtain ⟨i4, ei4⟩ := is_v g11
  obtain rfl : w4 = (.int i4) := Option.some.inj ei4
  obtain ⟨i5, ei5⟩ := is_v g12
  obtain rfl : w5 = (.int i5) := Option.some.inj ei5
  obtain ⟨n, o, h1, h2, h3, _, L, rfl, ⟨rfl, N⟩, hq⟩ := rm0 l s _ hw tables_1 i0 i1 i2 i3 i4 i5  s.heap s.heap.size (Nat.le_refl _)  p e ha hc hk s m _ below hf ((Spec.applies_iff_loose hf).mp happ).1 ⟨rfl, State.Warmed39.refl s, rfl⟩ trivial
  refine ⟨n, _, h1, h2, h3, hpost _ _ _ _ _ _ ⟨Cond.after_iff.mpr rfl, Cond.after_iff.mpr (eq_i res_at (Term.int_eval (1)) rfl), trivial⟩ ⟨hq.1, hq.2.1, hq.2.2.1, (hq.2.2.2.sift fun y hy => Or.inr (N y hy)).mono (by decide) (by decide)⟩⟩
theorem main_1_1 : Claimed_1_1 := comes_1 fun _ _ _ _ _ _ h hF => ⟨h.1, hF⟩
theorem main_1_2 : Claimed_1_2 := comes_1 fun _ _ _ _ _ _ h hF => ⟨h.2.1, hF⟩
end Jvm.Pilot.@@N@@
namespace Jvm.Pilot.@@N@@
open Jvm Jvm.ClassFile Sem Op Lib Jvm.Free Jvm.Stand Jvm.Pilot.@@N@@.Jvm.D
/-! MADE BY PROGRAM (witnessworld.py) out of the Statement's table words and the real class files: 15 classes; the members and pool entries that the words name. The judged class is class 1, her method 2. -/
namespace start1
open Jvm.ClassFile
def u (s : String) : CpInfo := .utf8 (stringToUtf16 s)
/-- a pool by its gaps: so many unusable entries, then the entry; so many at the end -/
def gap : Nat → List CpInfo → List CpInfo
  | 0, r => r
  | n + 1, r => .unusable :: gap n r
def poolList (es : List (Nat × CpInfo)) (last : Nat) : List CpInfo := es.foldr (fun e r => gap e.1 (e.2 :: r)) (gap last [])
def pool (es : List (Nat × CpInfo)) (last : Nat) : Array CpInfo := ⟨poolList es last⟩
def fileOf (pool : Array CpInfo) (this : Nat) (attrs : Array Attribute := #[]) (ms : Array MethodInfo := #[]) (fl : Nat := 33) (sup : Nat := 0) (ifs : Array Nat := #[]) (fds : Array FieldInfo := #[]) : ClassFile where
  minorVersion := 0
  majorVersion := 65
  constantPool := pool
  accessFlags := fl
  thisClass := this
  superClass := sup
  interfaces := ifs
  fields := fds
  methods := ms
  attributes := attrs
def plain (name : String) (sup : Option ClassId) : Class where
  name := name
  kind := .ordinary
  loader := none
  accessFlags := 33
  super := sup
  interfaces := #[]
  cf := none
  fields := #[]
  methods := #[]
  instanceTypes := #[]
  staticTypes := #[]
  resolved := #[]
  callSites := []
  init := .initialized
  statics := none
  mirror := none

def pool0 : Array CpInfo := pool [(5, u "<init>"), (0, u "()V"), (1, .class_ 10), (1, u "java/lang/Object")] 113

def k0c0 : Code := { maxStack := 0, maxLocals := 1, code := object_method_1_code, exceptionTable := #[], attributes := #[] }
def k0m0 : Method := { name := "<init>", desc := "()V", sig := { parameters := [], returnType := none }, accessFlags := 1, code := some k0c0 }
/-- java/lang/Object -/
def k0 : Class := { plain "java/lang/Object" none with
  accessFlags := 33
  interfaces := #[]
  cf := some (fileOf pool0 8 #[] #[{ accessFlags := 1, nameIndex := 5, descriptorIndex := 6, attributes := #[] }] 33 0 #[] #[])
  fields := #[]
  methods := #[k0m0]
  instanceTypes := #[]
  staticTypes := #[]
  resolved := Array.replicate 124 none
  statics := none }

def pool1 : Array CpInfo := pool [(2, .class_ 4), (1, u "java/lang/Object"), (0, u "<init>"), (0, u "()V"), (2, .long 2147483647), (1, .methodref 12 13), (0, .class_ 14), (0, .nameAndType 15 16), (0, u "com/example/tackboard/tackboard/core/NoteCoversPinLaw"), (0, u "fit"), (0, u "(II)I"), (0, .class_ 18), (0, u "com/example/tackboard/tackboard/core/Note"), (0, .string 20), (0, u "c"), (0, .string 22), (0, u "m"), (0, .methodref 17 24), (0, .nameAndType 5 25), (0, u "(JIIIILjava/lang/String;ZLjava/lang/String;)V"), (0, .methodref 17 27), (0, .nameAndType 28 29), (0, u "covers"), (0, u "(II)Z"), (2, u "law"), (0, u "(IIIIII)Z")] 3

def k1m0 : Method := { name := "<init>", desc := "()V", sig := { parameters := [], returnType := none }, accessFlags := 1, code := none }
def k1c1 : Code := { maxStack := 4, maxLocals := 4, code := method_2_code, exceptionTable := #[], attributes := #[] }
def k1m1 : Method := { name := "fit", desc := "(II)I", sig := { parameters := [.int, .int], returnType := some .int }, accessFlags := 10, code := some k1c1 }
def k1c2 : Code := { maxStack := 11, maxLocals := 17, code := code, exceptionTable := #[], attributes := #[] }
def k1m2 : Method := { name := "law", desc := "(IIIIII)Z", sig := { parameters := [.int, .int, .int, .int, .int, .int], returnType := some .boolean }, accessFlags := 9, code := some k1c2 }
/-- com/example/tackboard/tackboard/core/NoteCoversPinLaw -/
def k1 : Class := { plain "com/example/tackboard/tackboard/core/NoteCoversPinLaw" (some 0) with
  accessFlags := 49
  interfaces := #[]
  cf := some (fileOf pool1 12 #[] #[{ accessFlags := 1, nameIndex := 5, descriptorIndex := 6, attributes := #[] }, { accessFlags := 10, nameIndex := 15, descriptorIndex := 16, attributes := #[] }, { accessFlags := 9, nameIndex := 32, descriptorIndex := 33, attributes := #[] }] 49 2 #[] #[])
  fields := #[]
  methods := #[k1m0, k1m1, k1m2]
  instanceTypes := #[]
  staticTypes := #[]
  resolved := Array.replicate 37 none
  statics := none }

def pool2 : Array CpInfo := pool [(1, .methodref 2 3), (0, .class_ 4), (0, .nameAndType 5 6), (0, u "java/lang/Object"), (0, u "<init>"), (0, u "()V"), (0, .class_ 8), (0, u "java/lang/Record")] 13

def k2c0 : Code := { maxStack := 1, maxLocals := 1, code := jdk_30_method_1_code, exceptionTable := #[], attributes := #[] }
def k2m0 : Method := { name := "<init>", desc := "()V", sig := { parameters := [], returnType := none }, accessFlags := 4, code := some k2c0 }
/-- java/lang/Record -/
def k2 : Class := { plain "java/lang/Record" (some 0) with
  accessFlags := 1057
  interfaces := #[]
  cf := some (fileOf pool2 7 #[] #[{ accessFlags := 4, nameIndex := 5, descriptorIndex := 6, attributes := #[] }] 1057 2 #[] #[])
  fields := #[]
  methods := #[k2m0]
  instanceTypes := #[]
  staticTypes := #[]
  resolved := Array.replicate 22 none
  statics := none }

def pool3 : Array CpInfo := pool [(1, .methodref 2 3), (0, .class_ 4), (0, .nameAndType 5 6), (0, u "java/lang/Record"), (0, u "<init>"), (0, u "()V"), (0, .fieldref 8 9), (0, .class_ 10), (0, .nameAndType 11 12), (0, u "com/example/tackboard/tackboard/core/Note"), (0, u "id"), (0, u "J"), (0, .fieldref 8 14), (0, .nameAndType 15 16), (0, u "x"), (0, u "I"), (0, .fieldref 8 18), (0, .nameAndType 19 16), (0, u "y"), (0, .fieldref 8 21), (0, .nameAndType 22 16), (0, u "width"), (0, .fieldref 8 24), (0, .nameAndType 25 16), (0, u "height"), (0, .fieldref 8 27), (0, .nameAndType 28 29), (0, u "color"), (0, u "Ljava/lang/String;"), (0, .fieldref 8 31), (0, .nameAndType 32 33), (0, u "pinned"), (0, u "Z"), (0, .fieldref 8 35), (0, .nameAndType 36 29), (0, u "message"), (2, u "(JIIIILjava/lang/String;ZLjava/lang/String;)V"), (15, u "covers"), (0, u "(II)Z")] 35

def k3c0 : Code := { maxStack := 3, maxLocals := 10, code := prog_29_method_1_code, exceptionTable := #[], attributes := #[] }
def k3m0 : Method := { name := "<init>", desc := "(JIIIILjava/lang/String;ZLjava/lang/String;)V", sig := { parameters := [.long, .int, .int, .int, .int, (.object "java/lang/String"), .boolean, (.object "java/lang/String")], returnType := none }, accessFlags := 1, code := some k3c0 }
def k3c1 : Code := { maxStack := 3, maxLocals := 3, code := prog_29_method_2_code, exceptionTable := #[], attributes := #[] }
def k3m1 : Method := { name := "covers", desc := "(II)Z", sig := { parameters := [.int, .int], returnType := some .boolean }, accessFlags := 1, code := some k3c1 }
/-- com/example/tackboard/tackboard/core/Note -/
def k3 : Class := { plain "com/example/tackboard/tackboard/core/Note" (some 2) with
  accessFlags := 49
  interfaces := #[]
  cf := some (fileOf pool3 8 #[] #[{ accessFlags := 1, nameIndex := 5, descriptorIndex := 39, attributes := #[] }, { accessFlags := 1, nameIndex := 55, descriptorIndex := 56, attributes := #[] }] 49 2 #[] #[{ accessFlags := 18, nameIndex := 11, descriptorIndex := 12, attributes := #[] }, { accessFlags := 18, nameIndex := 15, descriptorIndex := 16, attributes := #[] }, { accessFlags := 18, nameIndex := 19, descriptorIndex := 16, attributes := #[] }, { accessFlags := 18, nameIndex := 22, descriptorIndex := 16, attributes := #[] }, { accessFlags := 18, nameIndex := 25, descriptorIndex := 16, attributes := #[] }, { accessFlags := 18, nameIndex := 28, descriptorIndex := 29, attributes := #[] }, { accessFlags := 18, nameIndex := 32, descriptorIndex := 33, attributes := #[] }, { accessFlags := 18, nameIndex := 36, descriptorIndex := 29, attributes := #[] }])
  fields := #[{ name := "id", type := .long, accessFlags := 18, slot := 0, constantValue := 0 }, { name := "x", type := .int, accessFlags := 18, slot := 1, constantValue := 0 }, { name := "y", type := .int, accessFlags := 18, slot := 2, constantValue := 0 }, { name := "width", type := .int, accessFlags := 18, slot := 3, constantValue := 0 }, { name := "height", type := .int, accessFlags := 18, slot := 4, constantValue := 0 }, { name := "color", type := (.object "java/lang/String"), accessFlags := 18, slot := 5, constantValue := 0 }, { name := "pinned", type := .boolean, accessFlags := 18, slot := 6, constantValue := 0 }, { name := "message", type := (.object "java/lang/String"), accessFlags := 18, slot := 7, constantValue := 0 }]
  methods := #[k3m0, k3m1]
  instanceTypes := #[.long, .int, .int, .int, .int, (.object "java/lang/String"), .boolean, (.object "java/lang/String")]
  staticTypes := #[]
  resolved := Array.replicate 92 none
  statics := none }

def pool4 : Array CpInfo := pool [(1, .class_ 2), (0, u "java/io/Serializable"), (0, .class_ 4), (0, u "java/lang/Object")] 2

/-- java/io/Serializable -/
def k4 : Class := { plain "java/io/Serializable" (some 0) with
  accessFlags := 1537
  interfaces := #[]
  cf := some (fileOf pool4 1 #[] #[] 1537 3 #[] #[])
  fields := #[]
  methods := #[]
  instanceTypes := #[]
  staticTypes := #[]
  resolved := Array.replicate 7 none
  statics := none }

def pool5 : Array CpInfo := pool [(1, .class_ 2), (0, u "java/lang/Comparable"), (0, .class_ 4), (0, u "java/lang/Object")] 7

/-- java/lang/Comparable -/
def k5 : Class := { plain "java/lang/Comparable" (some 0) with
  accessFlags := 1537
  interfaces := #[]
  cf := some (fileOf pool5 1 #[] #[] 1537 3 #[] #[])
  fields := #[]
  methods := #[]
  instanceTypes := #[]
  staticTypes := #[]
  resolved := Array.replicate 12 none
  statics := none }

def pool6 : Array CpInfo := pool [(2, .class_ 4), (1, u "java/lang/CharSequence"), (42, .class_ 48), (0, u "java/lang/CharSequence$1CodePointIterator"), (10, .class_ 60), (0, u "java/lang/CharSequence$1CharIterator"), (5, .class_ 67), (0, u "java/lang/Object")] 63

/-- java/lang/CharSequence -/
def k6 : Class := { plain "java/lang/CharSequence" (some 0) with
  accessFlags := 1537
  interfaces := #[]
  cf := some (fileOf pool6 2 #[.nestMembers #[47, 59]] #[] 1537 66 #[] #[])
  fields := #[]
  methods := #[]
  instanceTypes := #[]
  staticTypes := #[]
  resolved := Array.replicate 131 none
  statics := none }

def pool7 : Array CpInfo := pool [(1, .class_ 2), (0, u "java/lang/constant/Constable"), (0, .class_ 4), (0, u "java/lang/Object")] 6

/-- java/lang/constant/Constable -/
def k7 : Class := { plain "java/lang/constant/Constable" (some 0) with
  accessFlags := 1537
  interfaces := #[]
  cf := some (fileOf pool7 1 #[] #[] 1537 3 #[] #[])
  fields := #[]
  methods := #[]
  instanceTypes := #[]
  staticTypes := #[]
  resolved := Array.replicate 11 none
  statics := none }

def pool8 : Array CpInfo := pool [(1, .class_ 2), (0, u "java/lang/constant/ConstantDesc"), (0, .class_ 4), (0, u "java/lang/Object")] 32

/-- java/lang/constant/ConstantDesc -/
def k8 : Class := { plain "java/lang/constant/ConstantDesc" (some 0) with
  accessFlags := 1537
  interfaces := #[]
  cf := some (fileOf pool8 1 #[] #[] 1537 3 #[] #[])
  fields := #[]
  methods := #[]
  instanceTypes := #[]
  staticTypes := #[]
  resolved := Array.replicate 37 none
  statics := none }

def pool9 : Array CpInfo := pool [(2, .class_ 4), (1, u "java/lang/Object"), (0, u "<init>"), (0, u "()V"), (3, .class_ 12), (1, u "java/lang/String"), (0, u "value"), (0, u "[B"), (2, u "coder"), (0, u "B"), (2, u "hash"), (0, u "I"), (2, u "hashIsZero"), (0, u "Z"), (13, u "COMPACT_STRINGS"), (534, .class_ 576), (0, u "java/lang/CharSequence"), (22, u "CASE_INSENSITIVE_ORDER"), (0, u "Ljava/util/Comparator;"), (500, u "serialPersistentFields"), (0, u "[Ljava/io/ObjectStreamField;"), (0, .class_ 1104), (0, u "java/lang/String$CaseInsensitiveComparator"), (1, .class_ 1107), (0, u "java/io/Serializable"), (0, .class_ 1109), (0, u "java/lang/Comparable"), (0, .class_ 1111), (0, u "java/lang/constant/Constable"), (0, .class_ 1113), (0, u "java/lang/constant/ConstantDesc"), (2, u "serialVersionUID"), (0, u "J"), (3, u "REPL"), (0, u "C"), (2, u "LATIN1"), (1, u "UTF16")] 323

def k9m0 : Method := { name := "<init>", desc := "()V", sig := { parameters := [], returnType := none }, accessFlags := 1, code := none }
/-- java/lang/String -/
def k9 : Class := { plain "java/lang/String" (some 0) with
  accessFlags := 49
  interfaces := #[4, 5, 6, 7, 8]
  cf := some (fileOf pool9 10 #[.nestMembers #[1103]] #[{ accessFlags := 1, nameIndex := 5, descriptorIndex := 6, attributes := #[] }] 49 2 #[1106, 1108, 575, 1110, 1112] #[{ accessFlags := 18, nameIndex := 13, descriptorIndex := 14, attributes := #[] }, { accessFlags := 18, nameIndex := 17, descriptorIndex := 18, attributes := #[] }, { accessFlags := 2, nameIndex := 21, descriptorIndex := 22, attributes := #[] }, { accessFlags := 2, nameIndex := 25, descriptorIndex := 26, attributes := #[] }, { accessFlags := 26, nameIndex := 1116, descriptorIndex := 1117, attributes := #[] }, { accessFlags := 24, nameIndex := 40, descriptorIndex := 26, attributes := #[] }, { accessFlags := 26, nameIndex := 1101, descriptorIndex := 1102, attributes := #[] }, { accessFlags := 26, nameIndex := 1121, descriptorIndex := 1122, attributes := #[] }, { accessFlags := 25, nameIndex := 599, descriptorIndex := 600, attributes := #[] }, { accessFlags := 24, nameIndex := 1125, descriptorIndex := 18, attributes := #[] }, { accessFlags := 24, nameIndex := 1127, descriptorIndex := 18, attributes := #[] }])
  fields := #[{ name := "value", type := (.array .byte), accessFlags := 18, slot := 0, constantValue := 0 }, { name := "coder", type := .byte, accessFlags := 18, slot := 1, constantValue := 0 }, { name := "hash", type := .int, accessFlags := 2, slot := 2, constantValue := 0 }, { name := "hashIsZero", type := .boolean, accessFlags := 2, slot := 3, constantValue := 0 }, { name := "serialVersionUID", type := .long, accessFlags := 26, slot := 0, constantValue := 0 }, { name := "COMPACT_STRINGS", type := .boolean, accessFlags := 24, slot := 1, constantValue := 0 }, { name := "serialPersistentFields", type := (.array (.object "java/io/ObjectStreamField")), accessFlags := 26, slot := 2, constantValue := 0 }, { name := "REPL", type := .char, accessFlags := 26, slot := 3, constantValue := 0 }, { name := "CASE_INSENSITIVE_ORDER", type := (.object "java/util/Comparator"), accessFlags := 25, slot := 4, constantValue := 0 }, { name := "LATIN1", type := .byte, accessFlags := 24, slot := 5, constantValue := 0 }, { name := "UTF16", type := .byte, accessFlags := 24, slot := 6, constantValue := 0 }]
  methods := #[k9m0]
  instanceTypes := #[(.array .byte), .byte, .int, .boolean]
  staticTypes := #[.long, .boolean, (.array (.object "java/io/ObjectStreamField")), .char, (.object "java/util/Comparator"), .byte, .byte]
  resolved := Array.replicate 1451 none
  statics := none }

def pool10 : Array CpInfo := pool [(1, u "java/lang/Cloneable"), (0, .class_ 1), (0, u "java/lang/Object"), (0, .class_ 3)] 3

/-- java/lang/Cloneable -/
def k10 : Class := { plain "java/lang/Cloneable" (some 0) with
  accessFlags := 1537
  interfaces := #[]
  cf := some (fileOf pool10 2 #[] #[] 1537 4 #[] #[])
  fields := #[]
  methods := #[]
  instanceTypes := #[]
  staticTypes := #[]
  resolved := Array.replicate 8 none
  statics := none }

/-- the primitive byte -/
def k11 : Class := { plain "byte" none with kind := .primitive 'B', accessFlags := 0x411 }
/-- [B -/
def k12 : Class := { plain "[B" (some 0) with kind := .array 11 .byte, interfaces := #[10, 4], accessFlags := 1041 }

/-- the primitive int -/
def k13 : Class := { plain "int" none with kind := .primitive 'I', accessFlags := 0x411 }
/-- [I -/
def k14 : Class := { plain "[I" (some 0) with kind := .array 13 .int, interfaces := #[10, 4], accessFlags := 1041 }

def heap : Heap := #[]
def classes : Array Class := #[k0, k1, k2, k3, k4, k5, k6, k7, k8, k9, k10, k11, k12, k13, k14]
def interned : List (Array UInt16 × Addr) := []
def slotsUsed : Nat := 0
def theMethod : MethodId := ⟨1, 2⟩
def args0 : Array Value := #[.int 5, .int 6, .int 7, .int 8, .int 9, .int 10]
def aboutOver (below : List Frame) : State where
  vm := { classes := classes, interned := interned.toArray }
  heap := heap
  slotsUsed := slotsUsed
  threads := #[{ frames := .invoking theMethod args0 :: below }]
def below0 : List Frame := [.native { method := ⟨0, 0⟩, args := #[] }]
def about1 : State := aboutOver below0
def p0 : Program := .bare "" "" ""
def e0 : Env := launch0.env 0 0 0
theorem w_frames : about1.frames = Frame.invoking theMethod args0 :: below0 := rfl
set_option maxRecDepth 65536 in
theorem w_args : argsFit about1.vm theMethod args0 = true := by decide +kernel
set_option maxRecDepth 65536 in
theorem w_heap : heapFits about1 = true := by decide +kernel
set_option maxRecDepth 65536 in
theorem w_runnable : about1.curStatus? = some .runnable := by decide +kernel
set_option maxRecDepth 65536 in
theorem w_alone : about1.alone = true := by decide +kernel
set_option maxRecDepth 65536 in
theorem w_named : about1.methodNamed? x = some theMethod := by decide +kernel
set_option maxRecDepth 65536 in
theorem w_hears : about1.hears theMethod below0 = true := by decide +kernel
set_option maxRecDepth 65536 in
theorem w_ripe : about1.ripe theMethod args0 below0 = true := by decide +kernel
theorem w_running : about1.status = .running := rfl
set_option maxRecDepth 65536 in
theorem w_room : about1.hasRoom e0.platform room_1 = true :=
  launch0.hasRoom_least _ room_1 (by decide +kernel) (by decide +kernel) (by decide +kernel) (by decide +kernel) (by decide +kernel) (by decide +kernel)
theorem allAtoms_all (ts : List Jvm.Cond) (a : Array Jvm.Value) (st : Jvm.State) : (allAtoms ts).before a st = ts.all (fun c => c.before a st) := by
  induction ts with
  | nil => rfl
  | cons c t ih =>
    show (Jvm.Cond.and c (allAtoms t)).before a st = _
    rw [Jvm.Cond.before_and, ih, List.all_cons]
def words1 : List Jvm.Cond := Jvm.Cond.code x code maxLocals ret :: tables_1
/-- a 'code' word, met by the world's own term for the bytes: nothing is compared byte by byte -/
theorem code_word {y : MethodName} {bytes : ByteArray} {mx : Nat} {rt : Option FieldType} {a : Array Value} {s : State} {m : MethodId} {meth : Method} {c : Code} (h1 : s.methodNamed? y = some m) (h2 : s.vm.method? m = some meth) (h3 : meth.code = some c) (h4 : c.code = bytes)
    (h5 : (c.maxLocals == mx && c.exceptionTable.isEmpty && decide (c.maxStack ≤ mostOperands) && decide (meth.sig.returnType = rt) && !meth.locks && decide (parseMethodDescriptor y.desc = some meth.sig)) = true) : (Jvm.Cond.code y bytes mx rt).before a s = true := by
  simp only [Bool.and_eq_true, beq_iff_eq, Bool.not_eq_true', decide_eq_true_eq] at h5
  obtain ⟨⟨⟨⟨⟨g1, g2⟩, g3⟩, g4⟩, g5⟩, g6⟩ := h5
  simp [Cond.before, Cond.holds, Cond.value, h1, h2, h3, h4, g1, g2, g3, g4, g5, g6]
def isCode : Jvm.Cond → Bool
  | .code _ _ _ _ => true
  | _ => false
theorem all_split {L : List Jvm.Cond} {P : Jvm.Cond → Bool} (h1 : L.all (fun c => isCode c || P c) = true) (h2 : ∀ c ∈ L.filter isCode, P c = true) : L.all P = true := by
  refine List.all_eq_true.mpr fun c hc => ?_
  have h := List.all_eq_true.mp h1 c hc
  rcases Bool.eq_false_or_eq_true (isCode c) with hi | hi
  · exact h2 c (List.mem_filter.mpr ⟨hc, hi⟩)
  · simpa [hi] using h
set_option maxRecDepth 65536 in
theorem w_c0 : (Jvm.Cond.code x code maxLocals ret).before args0 about1 = true := code_word (m := ⟨1, 2⟩) (meth := k1m2) (c := k1c2) (by decide +kernel) rfl rfl rfl (by decide +kernel)
set_option maxRecDepth 65536 in
theorem w_c1 : (Jvm.Cond.code ({ cls := "com/example/tackboard/tackboard/core/NoteCoversPinLaw", name := "fit", desc := "(II)I" } : Jvm.MethodName) method_2_code (4 : Nat) (Option.some Jvm.ClassFile.FieldType.int)).before args0 about1 = true := code_word (m := ⟨1, 1⟩) (meth := k1m1) (c := k1c1) (by decide +kernel) rfl rfl rfl (by decide +kernel)
set_option maxRecDepth 65536 in
theorem w_c2 : (Jvm.Cond.code ({ cls := "com/example/tackboard/tackboard/core/Note", name := "<init>", desc := "(JIIIILjava/lang/String;ZLjava/lang/String;)V" } : Jvm.MethodName) prog_29_method_1_code (10 : Nat) (Option.none : Option Jvm.ClassFile.FieldType)).before args0 about1 = true := code_word (m := ⟨3, 0⟩) (meth := k3m0) (c := k3c0) (by decide +kernel) rfl rfl rfl (by decide +kernel)
set_option maxRecDepth 65536 in
theorem w_c3 : (Jvm.Cond.code ({ cls := "java/lang/Record", name := "<init>", desc := "()V" } : Jvm.MethodName) jdk_30_method_1_code (1 : Nat) (Option.none : Option Jvm.ClassFile.FieldType)).before args0 about1 = true := code_word (m := ⟨2, 0⟩) (meth := k2m0) (c := k2c0) (by decide +kernel) rfl rfl rfl (by decide +kernel)
set_option maxRecDepth 65536 in
theorem w_c4 : (Jvm.Cond.code ({ cls := "java/lang/Object", name := "<init>", desc := "()V" } : Jvm.MethodName) object_method_1_code (1 : Nat) (Option.none : Option Jvm.ClassFile.FieldType)).before args0 about1 = true := code_word (m := ⟨0, 0⟩) (meth := k0m0) (c := k0c0) (by decide +kernel) rfl rfl rfl (by decide +kernel)
set_option maxRecDepth 65536 in
theorem w_c5 : (Jvm.Cond.code ({ cls := "com/example/tackboard/tackboard/core/Note", name := "covers", desc := "(II)Z" } : Jvm.MethodName) prog_29_method_2_code (3 : Nat) (Option.some Jvm.ClassFile.FieldType.boolean)).before args0 about1 = true := code_word (m := ⟨3, 1⟩) (meth := k3m1) (c := k3c1) (by decide +kernel) rfl rfl rfl (by decide +kernel)
def codes1 : List Jvm.Cond := [Jvm.Cond.code x code maxLocals ret, Jvm.Cond.code ({ cls := "com/example/tackboard/tackboard/core/NoteCoversPinLaw", name := "fit", desc := "(II)I" } : Jvm.MethodName) method_2_code (4 : Nat) (Option.some Jvm.ClassFile.FieldType.int), Jvm.Cond.code ({ cls := "com/example/tackboard/tackboard/core/Note", name := "<init>", desc := "(JIIIILjava/lang/String;ZLjava/lang/String;)V" } : Jvm.MethodName) prog_29_method_1_code (10 : Nat) (Option.none : Option Jvm.ClassFile.FieldType), Jvm.Cond.code ({ cls := "java/lang/Record", name := "<init>", desc := "()V" } : Jvm.MethodName) jdk_30_method_1_code (1 : Nat) (Option.none : Option Jvm.ClassFile.FieldType), Jvm.Cond.code ({ cls := "java/lang/Object", name := "<init>", desc := "()V" } : Jvm.MethodName) object_method_1_code (1 : Nat) (Option.none : Option Jvm.ClassFile.FieldType), Jvm.Cond.code ({ cls := "com/example/tackboard/tackboard/core/Note", name := "covers", desc := "(II)Z" } : Jvm.MethodName) prog_29_method_2_code (3 : Nat) (Option.some Jvm.ClassFile.FieldType.boolean)]
set_option maxRecDepth 65536 in
theorem codes_eq : words1.filter isCode = codes1 := rfl
theorem w_codes : ∀ c ∈ words1.filter isCode, c.before args0 about1 = true := by
  rw [codes_eq]
  intro c hc
  simp only [codes1, List.mem_cons, List.not_mem_nil, or_false] at hc
  rcases hc with rfl | rfl | rfl | rfl | rfl | rfl
  · exact w_c0
  · exact w_c1
  · exact w_c2
  · exact w_c3
  · exact w_c4
  · exact w_c5
set_option maxRecDepth 65536 in
theorem w_t1 : (words1.take 24).all (fun c => isCode c || c.before args0 about1) = true := by decide +kernel
set_option maxRecDepth 65536 in
theorem w_t2 : ((words1.drop 24).take 24).all (fun c => isCode c || c.before args0 about1) = true := by decide +kernel
set_option maxRecDepth 65536 in
theorem w_t3 : ((words1.drop 24).drop 24).all (fun c => isCode c || c.before args0 about1) = true := by decide +kernel
theorem w_tables : (allAtoms (Jvm.Cond.code x code maxLocals ret :: tables_1)).before args0 about1 = true := by
  rw [allAtoms_all]
  show words1.all (fun c => c.before args0 about1) = true
  refine all_split ?_ w_codes
  rw [← List.take_append_drop 24 words1, List.all_append, w_t1, ← List.take_append_drop 24 (words1.drop 24), List.all_append, w_t2, w_t3]
  rfl
set_option maxRecDepth 65536 in
theorem w_case : (Jvm.Cond.and given_1 narrow_1).before args0 about1 = true := by decide +kernel
theorem w_applies : (headSpec (Jvm.Cond.code x code maxLocals ret :: tables_1) room_1).applies x e0.platform about1 = true :=
  (Spec.applies_iff w_frames).mpr ⟨w_running, w_runnable, w_alone, w_named, w_hears, w_ripe, w_room, w_tables⟩
theorem atStart : AtStart classFile x code maxLocals ret World_1 tables_1 room_1 Calls_1 rest_1 Pre_1 launch0 p0 e0 about1 theMethod args0 below0 :=
  ⟨lists_1, trivial, launch0.admits_env _ _ _, launch0.least_env, fairChoices_fair.cas, fairChoices_fair.clock, w_frames, w_args, w_heap, w_applies, trivial, trivial, w_case⟩
end start1
theorem witness_1 : WitnessClaimed_1 := ⟨start1.p0, start1.e0, start1.about1, start1.theMethod, start1.args0, start1.below0, start1.atStart⟩
end Jvm.Pilot.@@N@@
