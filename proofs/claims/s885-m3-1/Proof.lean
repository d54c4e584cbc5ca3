import JvmDerived
import JvmDerived.Pilot.@@N@@Statement
import JvmDerived.Pilot.@@N@@Code
set_option linter.unusedVariables false
set_option linter.unusedSimpArgs false
namespace Jvm.RoadKit
open Sem ClassFile Op Lib Jvm.Stand Jvm.Free Jvm.LawKit
section New
variable {p : Program} {l : Launch} {e : Env} {R : Room} {s : State} {m : MethodId} {args : Array Value} {below : List Frame} {meth : Method} {c : Code} {T : State} {locs : List Loc} {cells slots : Nat}
theorem retI (X : Stand p l e R s m args below meth c T locs cells slots) (hx : p.tables.exec = Jvm.exec) {pc : Nat} {Ls : Array Slot} {z : Int32} {rest : List Value} (hret : meth.sig.returnType = some .int) (hd : decode c.code pc = .ok (.ireturn, 1)) {fs : List Frame}
    (hl : ∀ (f : JFrame) (acts : List Action), f.method = m → f.locked = none → f.entered = [] → (doReturn e (T.setTop f) acts (some (.int z))).1 = T.setFrames fs) : Steps p.tables e below (T.setTop (mkF m pc Ls (.int z :: rest))) (T.setFrames fs) := by
  have hm' : T.vm.method? m = some meth := X.method'
  have hn : narrow .int (.int z) = .int z := rfl
  show Steps p.tables e below (T.setTop { method := m, pc := pc, locals := Ls, stack := _ :: rest, locked := none }) _
  jvm_step X.here [X.here.top, hx, hd, hm', hret, hn]
  first | (intro acts; rw [hl _ acts rfl rfl rfl]) | rw [hl _ _ rfl rfl rfl]
  exact Steps.refl _
end New
end Jvm.RoadKit
namespace Jvm.Pilot.@@N@@
open Jvm Jvm.ClassFile Sem Op Lib Jvm.Free Jvm.Stand Jvm.LawKit Jvm.RoadKit Bundle Jvm.Pilot.@@N@@.Jvm.D
theorem ow {Z : State} {a0 : Array Value} (hw : ∀ d ∈ tables_1, d.before a0 Z = true) (i : Nat) {d : Jvm.Cond} (h : tables_1[i]? = some d) : d.before a0 Z = true := hw _ (List.mem_of_getElem? h)
def own_b (P : Prop) [Decidable P] : Int32 := if P then 1 else 0
theorem own_b_t {P : Prop} [Decidable P] (h : P) : own_b P = 1 := if_pos h
theorem own_b_f {P : Prop} [Decidable P] (h : ¬ P) : own_b P = 0 := if_neg h
theorem own_b_nz {P : Prop} [Decidable P] (h : P) : ¬ (own_b P = (0 : Int32)) := by rw [own_b_t h]; decide
theorem own_b_nar (P : Prop) [Decidable P] : nar .boolean (own_b P) = own_b P := by
  by_cases h : P
  · rw [own_b_t h]; rfl
  · rw [own_b_f h]; rfl
theorem own_sel {Z s : State} {a0 args : Array Value} {y : MethodName} {n : Nat} (hZ : Z.Warmed39 s.vm) (wi : (Jvm.Cond.instantiable y.cls n).before a0 Z = true) (wp : (Jvm.Cond.privateMethod y).before a0 Z = true) (wm : (Jvm.Cond.instanceMethod y).before a0 Z = true) (hy : y.cls ≠ "java/lang/invoke/MethodHandle" ∧ y.cls ≠ "java/lang/invoke/VarHandle") : (Jvm.Cond.selects y.cls y y).before args s = true := by
  have wi' : (Jvm.Cond.instantiable y.cls n).before args s = true := mvT hZ wi
  obtain ⟨c, k, h1, h2, h3, h4, -⟩ := Cond.instantiable_spec wi'
  have h5 : k.isInterface = false := by
    cases hq : k.isInterface with
    | false => rfl
    | true => rw [hq] at h4; simp at h4
  exact Jvm.Stand.selects_self_of_private h1 h2 h5 (Cond.privateMethod_at (mvP hZ wp (args := args))) (mvT hZ wm) hy
theorem own_nf {s : State} {args : Array Value} {C : String} {y y' : MethodName} (w : (Jvm.Cond.selects C y' y').before args s = true) (e : y'.cls = y.cls) : NotFace s y := fun r0 h0 => by
  obtain ⟨c2, r2, m2, q1, q2, q3, q4, kP, hkP, hkPi⟩ := Cond.selects_spec w
  have h1 := findClass_of_methodNamed h0
  have h2 := findClass_of_methodNamed q3
  rw [e] at h2
  have h3 := Option.some.inj (h1.symm.trans h2)
  exact ⟨kP, by rw [h3]; exact hkP, hkPi⟩
theorem own_selN {Z s : State} {a0 args : Array Value} {y : MethodName} (hZ : Z.Warmed39 s.vm) (nf : NotFace s y) (wp : (Jvm.Cond.privateMethod y).before a0 Z = true) (wm : (Jvm.Cond.instanceMethod y).before a0 Z = true) (hy : y.cls ≠ "java/lang/invoke/MethodHandle" ∧ y.cls ≠ "java/lang/invoke/VarHandle") : (Jvm.Cond.selects y.cls y y).before args s = true := by
  have wm' : (Jvm.Cond.instanceMethod y).before args s = true := mvT hZ wm
  obtain ⟨mk, methM, hnamed, -⟩ := Cond.instanceMethod_spec wm'
  obtain ⟨k, hk, hki⟩ := nf mk hnamed
  exact Jvm.Stand.selects_self_of_private (findClass_of_methodNamed hnamed) hk hki (Cond.privateMethod_at (mvP hZ wp (args := args))) wm' hy
theorem own_b01 (P : Prop) [Decidable P] : own_b P = (0 : Int32) ∨ own_b P = (1 : Int32) := by
  by_cases h : P
  · exact Or.inr (own_b_t h)
  · exact Or.inl (own_b_f h)
theorem own_b_iff {P : Prop} [Decidable P] : own_b P = (0 : Int32) ↔ ¬ P := ⟨fun q h => own_b_nz h q, own_b_f⟩
theorem own_msk (b : Int64) : ¬ ((b &&& (9223372036854775807 : Int64)) < (0 : Int64)) := by
  have h1 := c_maskL b 9223372036854775807 63 (by decide) (by decide)
  rw [Int64.lt_iff_toInt_lt, h1]
  have e0 : (0 : Int64).toInt = 0 := by decide
  omega
theorem own_abs {b s : Int64} (hb : ¬ b < (0 : Int64)) (hs : ¬ s < (0 : Int64)) : (b < s → (if (b - s) < (0 : Int64) then (-(b - s)) else (b - s)) = (s - b)) ∧ (¬ b < s → (if (b - s) < (0 : Int64) then (-(b - s)) else (b - s)) = (b - s)) ∧ ¬ ((if (b - s) < (0 : Int64) then (-(b - s)) else (b - s)) < (0 : Int64)) := by
  have e0 : (0 : Int64).toInt = 0 := by decide
  have h1 := c_lsub b s
  have h2 := c_lneg (b - s)
  have h3 := c_lsub s b
  have r1 := rng64 b
  have r2 := rng64 s
  have r3 := rng64 (b - s)
  have r4 := rng64 (s - b)
  have r5 := rng64 (-(b - s))
  rw [Int64.lt_iff_toInt_lt, e0] at hb hs
  by_cases hc : (b - s) < (0 : Int64)
  · rw [if_pos hc]
    rw [Int64.lt_iff_toInt_lt, e0] at hc
    refine ⟨fun _ => Int64.toInt_inj.mp (by omega), fun q => absurd (Int64.lt_iff_toInt_lt.mpr (by omega)) q, ?_⟩
    rw [Int64.lt_iff_toInt_lt, e0]
    omega
  · rw [if_neg hc]
    rw [Int64.lt_iff_toInt_lt, e0] at hc
    refine ⟨fun q => ?_, fun _ => rfl, ?_⟩
    · rw [Int64.lt_iff_toInt_lt] at q; exact absurd q (by omega)
    · rw [Int64.lt_iff_toInt_lt, e0]; exact hc
theorem pn0 : plainName "java/lang/Record" = true := by first | (simp [plainName, overriddenIn]; done) | decide +kernel
theorem d2_0 : decode jdk_30_method_1_code 0 = .ok (.aload_n 0, 1) := by decide +kernel
theorem d2_1 : decode jdk_30_method_1_code 1 = .ok (.invokespecial 1, 3) := by decide +kernel
theorem d2_4 : decode jdk_30_method_1_code 4 = .ok (.return_, 1) := by decide +kernel
theorem ef2 (m : MethodId) (a1 : Addr) : entryFrame m #[(.ref a1)] 1 = mkF m 0 #[.val (.ref a1)] [] := by first | (simp [entryFrame, mkF, argsToLocals, Value.category]; done) | rfl
def Q2 (Z : State) (a1 : Addr) (h0 : Heap) (n0 : Nat) (v : Option Value) (h : Heap) (L : List Loc) : Prop := v = none ∧ Fr n0 L ∧ h = h0
set_option maxRecDepth 65536 in
set_option maxHeartbeats 40000000 in
theorem rm2 (l : Launch) (Z : State) (a0 : Array Value) (hw : ∀ d ∈ tables_1, d.before a0 Z = true) (ws : List Jvm.Cond) (a1 : Addr) (h0 : Heap) (n0 : Nat) (Z0 : n0 ≤ h0.size) :
    MetFree l (⟨"java/lang/Record", "<init>", "()V"⟩ : MethodName) (head1 (Jvm.Cond.code (⟨"java/lang/Record", "<init>", "()V"⟩ : MethodName) jdk_30_method_1_code 1 none :: ws) ({ frames := 1, cells := 0, slots := 0, locals := 12 } : Room)) (fun a U => a = #[(.ref a1)] ∧ Z.Warmed39 U.vm ∧ U.heap = h0) (fun _ _ _ _ _ => True) (fun _ U o U' => ∃ v L, o = .returned v ∧ Q2 Z a1 h0 n0 v U'.heap L ∧ FrameEnd U o U' L ({ frames := 1, cells := 0, slots := 0, locals := 12 } : Room).cells ({ frames := 1, cells := 0, slots := 0, locals := 12 } : Room).slots) := by
  refine MetFree.of_bodySF (plainFor_of_name pn0) hisR ?_
  intro p e s m args below meth c s₁ Bd hml0 hP hK
  obtain ⟨rfl, hZ, hh⟩ := hP
  have hx := Bd.exec
  have hby := Bd.bytes
  have hml : c.maxLocals = 1 := hml0
  have hown : s.vm.findClass "java/lang/Record" = some m.cls := findClass_of_methodNamed Bd.named
  have hnm := (name_of_methodNamed Bd.named Bd.method).1
  have X0 : Stand p l e ({ frames := 1, cells := 0, slots := 0, locals := 12 } : Room) s m #[(.ref a1)] below meth c s₁ [] 0 0 := Stand.of_body Bd
  have e0 : s₁.heap = h0 := by rw [← hh, Bd.state]; rfl
  have N0 := Fr.nil n0
  have pre0 : ∀ t, Steps p.tables e below (s₁.setTop (mkF m 0 #[.val (.ref a1)] [])) t → Steps p.tables e below (s₁.setTop (entryFrame m #[(.ref a1)] 1)) t := fun t k => castTop (ef2 m a1) k
  obtain ⟨T1, X1, e1, st1⟩ := initO X0 hx hZ hown (ow hw 15 rfl) (ow hw 16 rfl) (ow hw 17 rfl) e0 (g := (mkF m 1 #[.val (.ref a1)] [(.ref a1)])) rfl (by rw [hml]; rfl) rfl (hb hby d2_1) (by decide) (W := 0) (by show 2 * 0 + _ ≤ _; exact Nat.le_of_eq rfl) (by decide)
  obtain ⟨fs, hr, hrun, hended, hW, hsame⟩ := X1.leave (v := none) (fun _ => rfl)
  refine ⟨_, _, pre0 _ ?_, hrun, hended, _, _, rfl, ?_, ⟨_, rfl⟩, hW, hsame.mono (by decide) (by decide)⟩
  · show Steps p.tables e below (s₁.setTop (mkF m 0 #[.val (.ref a1)] [])) _
    refine XS.aloadN X0.here hx rfl (hb hby d2_0) rfl rfl ?_
    show Steps p.tables e below (s₁.setTop (mkF m 1 #[.val (.ref a1)] [(.ref a1)])) _
    refine st1 _ ?_
    show Steps p.tables e below (T1.setTop (mkF m 4 #[.val (.ref a1)] [])) _
    exact X1.returnOut hx Bd.returns (hb hby d2_4) hr
  · show Q2 Z a1 h0 n0 _ T1.heap _
    rw [e1]
    exact ⟨rfl, N0, rfl⟩
theorem pn1 : plainName "com/example/docketline/docketline/order/Price" = true := by first | (simp [plainName, overriddenIn]; done) | decide +kernel
theorem d1_0 : decode prog_77_method_1_code 0 = .ok (.aload_n 0, 1) := by decide +kernel
theorem d1_1 : decode prog_77_method_1_code 1 = .ok (.invokespecial 1, 3) := by decide +kernel
theorem pd2 : parseMethodDescriptor "()V" = some ⟨[], none⟩ := by decide +kernel
theorem d1_4 : decode prog_77_method_1_code 4 = .ok (.lload_n 1, 1) := by decide +kernel
theorem d1_5 : decode prog_77_method_1_code 5 = .ok (.lconst 0, 1) := by decide +kernel
theorem d1_6 : decode prog_77_method_1_code 6 = .ok (.lcmp, 1) := by decide +kernel
theorem d1_7 : decode prog_77_method_1_code 7 = .ok (.ifCond .ge 17, 3) := by decide +kernel
theorem d1_24 : decode prog_77_method_1_code 24 = .ok (.aload_n 0, 1) := by decide +kernel
theorem d1_25 : decode prog_77_method_1_code 25 = .ok (.lload_n 1, 1) := by decide +kernel
theorem d1_26 : decode prog_77_method_1_code 26 = .ok (.putfield 16, 3) := by decide +kernel
theorem d1_29 : decode prog_77_method_1_code 29 = .ok (.return_, 1) := by decide +kernel
theorem ef1 (m : MethodId) (a1 : Addr) (q1 : Int64) : entryFrame m #[(.ref a1), (.long q1)] 3 = mkF m 0 #[.val (.ref a1), .val (.long q1), .second] [] := by first | (simp [entryFrame, mkF, argsToLocals, Value.category]; done) | rfl
def Q1 (Z : State) (a1 : Addr) (q1 : Int64) (u1 : Value) (h0 : Heap) (n0 : Nat) (v : Option Value) (h : Heap) (L : List Loc) : Prop := v = none ∧ Fr n0 L ∧ Keep h0 h [a1] ∧ Exa Z h a1 "com/example/docketline/docketline/order/Price"
set_option maxRecDepth 65536 in
set_option maxHeartbeats 40000000 in
theorem rm1 (l : Launch) (Z : State) (a0 : Array Value) (hw : ∀ d ∈ tables_1, d.before a0 Z = true) (ws : List Jvm.Cond) (a1 : Addr) (q1 : Int64) (u1 : Value) (h0 : Heap) (n0 : Nat) (Z0 : n0 ≤ h0.size) (E1 : Exa Z h0 a1 "com/example/docketline/docketline/order/Price") (F1 : Fld Z h0 a1 "com/example/docketline/docketline/order/Price" "ticks" "J" u1) (g1 : n0 ≤ a1) (hq : ¬ (q1 < (0 : Int64))) :
    MetFree l (⟨"com/example/docketline/docketline/order/Price", "<init>", "(J)V"⟩ : MethodName) (head1 (Jvm.Cond.code (⟨"com/example/docketline/docketline/order/Price", "<init>", "(J)V"⟩ : MethodName) prog_77_method_1_code 3 none :: ws) ({ frames := 2, cells := 0, slots := 0, locals := 24 } : Room)) (fun a U => a = #[(.ref a1), (.long q1)] ∧ Z.Warmed39 U.vm ∧ U.heap = h0) (fun _ _ _ _ _ => True) (fun _ U o U' => ∃ v L, o = .returned v ∧ Q1 Z a1 q1 u1 h0 n0 v U'.heap L ∧ FrameEnd U o U' L ({ frames := 2, cells := 0, slots := 0, locals := 24 } : Room).cells ({ frames := 2, cells := 0, slots := 0, locals := 24 } : Room).slots) := by
  refine MetFree.of_bodySF (plainFor_of_name pn1) hisR ?_
  intro p e s m args below meth c s₁ Bd hml0 hP hK
  obtain ⟨rfl, hZ, hh⟩ := hP
  have hx := Bd.exec
  have hby := Bd.bytes
  have hml : c.maxLocals = 3 := hml0
  have hown : s.vm.findClass "com/example/docketline/docketline/order/Price" = some m.cls := findClass_of_methodNamed Bd.named
  have hnm := (name_of_methodNamed Bd.named Bd.method).1
  have X0 : Stand p l e ({ frames := 2, cells := 0, slots := 0, locals := 24 } : Room) s m #[(.ref a1), (.long q1)] below meth c s₁ [] 0 0 := Stand.of_body Bd
  have e0 : s₁.heap = h0 := by rw [← hh, Bd.state]; rfl
  have N0 := Fr.nil n0
  have pre0 : ∀ t, Steps p.tables e below (s₁.setTop (mkF m 0 #[.val (.ref a1), .val (.long q1), .second] [])) t → Steps p.tables e below (s₁.setTop (entryFrame m #[(.ref a1), (.long q1)] 3)) t := fun t k => castTop (ef1 m a1 q1) k
  obtain ⟨_, _, ⟨T1, L1, k1, n1⟩, -, X1, ⟨Lc1, hQ1, l1, y1, z1⟩, st1⟩ := X0.specialBack hx (y := (⟨"java/lang/Record", "<init>", "()V"⟩ : MethodName)) rfl hown (mvT hZ (ow hw 10 rfl)) (mvT hZ (ow hw 11 rfl)) (mvT hZ (ow hw 14 rfl)) (by decide) (backOf (W := 0) (rm2 l Z a0 hw [] a1 h0 n0 Z0 ) hZ (ow hw 14 rfl) (ow hw 13 rfl) (by decide) (by decide)) (g := (mkF m 1 #[.val (.ref a1), .val (.long q1), .second] [(.ref a1)])) rfl (by rw [hml]; rfl) (Steps.refl _) (a := a1) (argsL := []) (rest := []) (lenOf pd2 rfl) rfl (by show 2 * 0 + _ ≤ _; exact Nat.le_of_eq rfl) (hb hby d1_1) (fun _ _ => ⟨rfl, e0, (by decide : 0 + 0 ≤ _), (by decide : 0 + 0 ≤ _)⟩)
  dsimp only [Pt.U, Pt.locs, Pt.cells, Pt.slots] at X1 l1 y1 z1 st1 hQ1
  subst l1 y1 z1
  obtain ⟨rfl, N1q, e1⟩ := hQ1
  have N1 := Fr.app N0 N1q
  obtain ⟨T2, h2, X2, e2, W2, st2⟩ := putF X1 hx hZ hown (host := "") (Or.inl (ow hw 18 rfl)) Via.refl e1 F1 E1 (Or.inr ⟨(ow hw 19 rfl), rfl, hnm⟩) (ow hw 5 rfl) (ty := .long) (by decide) rfl rfl (g := (mkF m 26 #[.val (.ref a1), .val (.long q1), .second] [(.long q1), (.ref a1)])) rfl rfl (hb hby d1_26)
  have fw2 : Fld Z h2 a1 "com/example/docketline/docketline/order/Price" "ticks" "J" (.long q1) := F1.same W2
  have Z3 : n0 ≤ h2.size := Nat.le_trans Z0 (Nat.le_of_eq W2.size.symm)
  have K4 : Keep h0 h2 [a1] := (Keep.refl h0 [a1]).wr W2 (Or.inl (List.mem_of_getElem? (i := 0) rfl))
  have N2 := Fr.snoc X2 N1 g1
  obtain ⟨fs, hr, hrun, hended, hW, hsame⟩ := X2.leave (v := none) (fun _ => rfl)
  have fa5 : Exa Z h2 a1 "com/example/docketline/docketline/order/Price" := (E1.wr W2)
  refine ⟨_, _, pre0 _ ?_, hrun, hended, _, _, rfl, ?_, ⟨_, rfl⟩, hW, hsame.mono (by decide) (by decide)⟩
  · show Steps p.tables e below (s₁.setTop (mkF m 0 #[.val (.ref a1), .val (.long q1), .second] [])) _
    refine XS.aloadN X0.here hx rfl (hb hby d1_0) rfl rfl ?_
    show Steps p.tables e below (s₁.setTop (mkF m 1 #[.val (.ref a1), .val (.long q1), .second] [(.ref a1)])) _
    refine st1.trans ?_
    show Steps p.tables e below (T1.setTop (mkF m 4 #[.val (.ref a1), .val (.long q1), .second] [])) _
    refine XS.lloadN X1.here hx rfl (hb hby d1_4) rfl  ?_
    show Steps p.tables e below (T1.setTop (mkF m 5 #[.val (.ref a1), .val (.long q1), .second] [(.long q1)])) _
    refine XS.lconst X1.here hx rfl (hb hby d1_5) ?_
    show Steps p.tables e below (T1.setTop (mkF m 6 #[.val (.ref a1), .val (.long q1), .second] [(.long (0 : Int64)), (.long q1)])) _
    refine XS.lcmp X1.here hx rfl (hb hby d1_6) rfl ?_
    show Steps p.tables e below (T1.setTop (mkF m 7 #[.val (.ref a1), .val (.long q1), .second] [(.int (lcmpW q1 (0 : Int64)))])) _
    refine XS.ifYes X1.here hx rfl (pc0 := 7) (pc' := 24) rfl (hb hby d1_7) rfl ((if0 _ _).trans (flt (fun q => hq ((lw_lt _ _).mp q))).2.1) (by decide) (by decide) ?_
    show Steps p.tables e below (T1.setTop (mkF m 24 #[.val (.ref a1), .val (.long q1), .second] [])) _
    refine XS.aloadN X1.here hx rfl (hb hby d1_24) rfl rfl ?_
    show Steps p.tables e below (T1.setTop (mkF m 25 #[.val (.ref a1), .val (.long q1), .second] [(.ref a1)])) _
    refine XS.lloadN X1.here hx rfl (hb hby d1_25) rfl  ?_
    show Steps p.tables e below (T1.setTop (mkF m 26 #[.val (.ref a1), .val (.long q1), .second] [(.long q1), (.ref a1)])) _
    refine st2 _ ?_
    show Steps p.tables e below (T2.setTop (mkF m 29 #[.val (.ref a1), .val (.long q1), .second] [])) _
    exact X2.returnOut hx Bd.returns (hb hby d1_29) hr
  · show Q1 Z a1 q1 u1 h0 n0 _ T2.heap _
    rw [e2]
    exact ⟨rfl, N2, K4, fa5⟩
theorem pn3 : plainName "com/example/docketline/docketline/cross/Interest" = true := by first | (simp [plainName, overriddenIn]; done) | decide +kernel
theorem d4_0 : decode prog_40_method_1_code 0 = .ok (.aload_n 0, 1) := by decide +kernel
theorem d4_1 : decode prog_40_method_1_code 1 = .ok (.invokespecial 1, 3) := by decide +kernel
theorem d4_4 : decode prog_40_method_1_code 4 = .ok (.aload_n 0, 1) := by decide +kernel
theorem d4_5 : decode prog_40_method_1_code 5 = .ok (.aload_n 1, 1) := by decide +kernel
theorem d4_6 : decode prog_40_method_1_code 6 = .ok (.putfield 7, 3) := by decide +kernel
theorem d4_9 : decode prog_40_method_1_code 9 = .ok (.aload_n 0, 1) := by decide +kernel
theorem d4_10 : decode prog_40_method_1_code 10 = .ok (.lload_n 2, 1) := by decide +kernel
theorem d4_11 : decode prog_40_method_1_code 11 = .ok (.putfield 13, 3) := by decide +kernel
theorem d4_14 : decode prog_40_method_1_code 14 = .ok (.aload_n 0, 1) := by decide +kernel
theorem d4_15 : decode prog_40_method_1_code 15 = .ok (.lload 4, 2) := by decide +kernel
theorem d4_17 : decode prog_40_method_1_code 17 = .ok (.putfield 17, 3) := by decide +kernel
theorem d4_20 : decode prog_40_method_1_code 20 = .ok (.return_, 1) := by decide +kernel
theorem ef4 (m : MethodId) (a1 : Addr) (a2 : Addr) (q1 : Int64) (q2 : Int64) : entryFrame m #[(.ref a1), (.ref a2), (.long q1), (.long q2)] 6 = mkF m 0 #[.val (.ref a1), .val (.ref a2), .val (.long q1), .second, .val (.long q2), .second] [] := by first | (simp [entryFrame, mkF, argsToLocals, Value.category]; done) | rfl
def Q4 (Z : State) (a1 : Addr) (a2 : Addr) (q1 : Int64) (q2 : Int64) (u1 : Value) (u2 : Value) (u3 : Value) (h0 : Heap) (n0 : Nat) (v : Option Value) (h : Heap) (L : List Loc) : Prop := v = none ∧ Fr n0 L ∧ Keep h0 h [a1] ∧ Exa Z h a1 "com/example/docketline/docketline/cross/Interest" ∧ Fld Z h a1 "com/example/docketline/docketline/cross/Interest" "buyShares" "J" (.long q1) ∧ Fld Z h a1 "com/example/docketline/docketline/cross/Interest" "sellShares" "J" (.long q2)
set_option maxRecDepth 65536 in
set_option maxHeartbeats 40000000 in
theorem rm4 (l : Launch) (Z : State) (a0 : Array Value) (hw : ∀ d ∈ tables_1, d.before a0 Z = true) (ws : List Jvm.Cond) (a1 : Addr) (a2 : Addr) (q1 : Int64) (q2 : Int64) (u1 : Value) (u2 : Value) (u3 : Value) (h0 : Heap) (n0 : Nat) (Z0 : n0 ≤ h0.size) (E1 : Exa Z h0 a1 "com/example/docketline/docketline/cross/Interest") (F1 : Fld Z h0 a1 "com/example/docketline/docketline/cross/Interest" "price" "Lcom/example/docketline/docketline/order/Price;" u1) (F2 : Fld Z h0 a1 "com/example/docketline/docketline/cross/Interest" "buyShares" "J" u2) (F3 : Fld Z h0 a1 "com/example/docketline/docketline/cross/Interest" "sellShares" "J" u3) (g1 : n0 ≤ a1) :
    MetFree l (⟨"com/example/docketline/docketline/cross/Interest", "<init>", "(Lcom/example/docketline/docketline/order/Price;JJ)V"⟩ : MethodName) (head1 (Jvm.Cond.code (⟨"com/example/docketline/docketline/cross/Interest", "<init>", "(Lcom/example/docketline/docketline/order/Price;JJ)V"⟩ : MethodName) prog_40_method_1_code 6 none :: ws) ({ frames := 2, cells := 0, slots := 0, locals := 24 } : Room)) (fun a U => a = #[(.ref a1), (.ref a2), (.long q1), (.long q2)] ∧ Z.Warmed39 U.vm ∧ U.heap = h0) (fun _ _ _ _ _ => True) (fun _ U o U' => ∃ v L, o = .returned v ∧ Q4 Z a1 a2 q1 q2 u1 u2 u3 h0 n0 v U'.heap L ∧ FrameEnd U o U' L ({ frames := 2, cells := 0, slots := 0, locals := 24 } : Room).cells ({ frames := 2, cells := 0, slots := 0, locals := 24 } : Room).slots) := by
  refine MetFree.of_bodySF (plainFor_of_name pn3) hisR ?_
  intro p e s m args below meth c s₁ Bd hml0 hP hK
  obtain ⟨rfl, hZ, hh⟩ := hP
  have hx := Bd.exec
  have hby := Bd.bytes
  have hml : c.maxLocals = 6 := hml0
  have hown : s.vm.findClass "com/example/docketline/docketline/cross/Interest" = some m.cls := findClass_of_methodNamed Bd.named
  have hnm := (name_of_methodNamed Bd.named Bd.method).1
  have X0 : Stand p l e ({ frames := 2, cells := 0, slots := 0, locals := 24 } : Room) s m #[(.ref a1), (.ref a2), (.long q1), (.long q2)] below meth c s₁ [] 0 0 := Stand.of_body Bd
  have e0 : s₁.heap = h0 := by rw [← hh, Bd.state]; rfl
  have N0 := Fr.nil n0
  have pre0 : ∀ t, Steps p.tables e below (s₁.setTop (mkF m 0 #[.val (.ref a1), .val (.ref a2), .val (.long q1), .second, .val (.long q2), .second] [])) t → Steps p.tables e below (s₁.setTop (entryFrame m #[(.ref a1), (.ref a2), (.long q1), (.long q2)] 6)) t := fun t k => castTop (ef4 m a1 a2 q1 q2) k
  obtain ⟨_, _, ⟨T1, L1, k1, n1⟩, -, X1, ⟨Lc1, hQ1, l1, y1, z1⟩, st1⟩ := X0.specialBack hx (y := (⟨"java/lang/Record", "<init>", "()V"⟩ : MethodName)) rfl hown (mvT hZ (ow hw 23 rfl)) (mvT hZ (ow hw 11 rfl)) (mvT hZ (ow hw 14 rfl)) (by decide) (backOf (W := 0) (rm2 l Z a0 hw [] a1 h0 n0 Z0 ) hZ (ow hw 14 rfl) (ow hw 13 rfl) (by decide) (by decide)) (g := (mkF m 1 #[.val (.ref a1), .val (.ref a2), .val (.long q1), .second, .val (.long q2), .second] [(.ref a1)])) rfl (by rw [hml]; rfl) (Steps.refl _) (a := a1) (argsL := []) (rest := []) (lenOf pd2 rfl) rfl (by show 2 * 0 + _ ≤ _; exact Nat.le_of_eq rfl) (hb hby d4_1) (fun _ _ => ⟨rfl, e0, (by decide : 0 + 0 ≤ _), (by decide : 0 + 0 ≤ _)⟩)
  dsimp only [Pt.U, Pt.locs, Pt.cells, Pt.slots] at X1 l1 y1 z1 st1 hQ1
  subst l1 y1 z1
  obtain ⟨rfl, N1q, e1⟩ := hQ1
  have N1 := Fr.app N0 N1q
  obtain ⟨T2, h2, X2, e2, W2, st2⟩ := putF X1 hx hZ hown (host := "") (Or.inl (ow hw 24 rfl)) Via.refl e1 F1 E1 (Or.inr ⟨(ow hw 25 rfl), rfl, hnm⟩) (ow hw 2 rfl) (ty := (.object "com/example/docketline/docketline/order/Price")) (by decide) rfl rfl (g := (mkF m 6 #[.val (.ref a1), .val (.ref a2), .val (.long q1), .second, .val (.long q2), .second] [(.ref a2), (.ref a1)])) rfl rfl (hb hby d4_6)
  have fw2 : Fld Z h2 a1 "com/example/docketline/docketline/cross/Interest" "price" "Lcom/example/docketline/docketline/order/Price;" (.ref a2) := F1.same W2
  have Z3 : n0 ≤ h2.size := Nat.le_trans Z0 (Nat.le_of_eq W2.size.symm)
  have K4 : Keep h0 h2 [a1] := (Keep.refl h0 [a1]).wr W2 (Or.inl (List.mem_of_getElem? (i := 0) rfl))
  have N2 := Fr.snoc X2 N1 g1
  have fa5 : Fld Z h2 a1 "com/example/docketline/docketline/cross/Interest" "buyShares" "J" u2 := (F2.other W2 (Or.inr (slot_ne (Or.inr (ow hw 27 rfl)) (Or.inr (ow hw 25 rfl)) (by decide) (t := .long) (t' := (.object "com/example/docketline/docketline/order/Price")) (by decide) (by decide))))
  have fa6 : Exa Z h2 a1 "com/example/docketline/docketline/cross/Interest" := (E1.wr W2)
  obtain ⟨T7, h7, X7, e7, W7, st7⟩ := putF X2 hx hZ hown (host := "") (Or.inl (ow hw 26 rfl)) Via.refl e2 fa5 fa6 (Or.inr ⟨(ow hw 27 rfl), rfl, hnm⟩) (ow hw 2 rfl) (ty := .long) (by decide) rfl rfl (g := (mkF m 11 #[.val (.ref a1), .val (.ref a2), .val (.long q1), .second, .val (.long q2), .second] [(.long q1), (.ref a1)])) rfl rfl (hb hby d4_11)
  have fw7 : Fld Z h7 a1 "com/example/docketline/docketline/cross/Interest" "buyShares" "J" (.long q1) := fa5.same W7
  have Z8 : n0 ≤ h7.size := Nat.le_trans Z3 (Nat.le_of_eq W7.size.symm)
  have K9 : Keep h0 h7 [a1] := K4.wr W7 (Or.inl (List.mem_of_getElem? (i := 0) rfl))
  have N7 := Fr.snoc X7 N2 g1
  have fa10 : Fld Z h7 a1 "com/example/docketline/docketline/cross/Interest" "sellShares" "J" u3 := ((F3.other W2 (Or.inr (slot_ne (Or.inr (ow hw 29 rfl)) (Or.inr (ow hw 25 rfl)) (by decide) (t := .long) (t' := (.object "com/example/docketline/docketline/order/Price")) (by decide) (by decide)))).other W7 (Or.inr (slot_ne (Or.inr (ow hw 29 rfl)) (Or.inr (ow hw 27 rfl)) (by decide) (t := .long) (t' := .long) (by decide) (by decide))))
  have fa11 : Exa Z h7 a1 "com/example/docketline/docketline/cross/Interest" := (fa6.wr W7)
  obtain ⟨T12, h12, X12, e12, W12, st12⟩ := putF X7 hx hZ hown (host := "") (Or.inl (ow hw 28 rfl)) Via.refl e7 fa10 fa11 (Or.inr ⟨(ow hw 29 rfl), rfl, hnm⟩) (ow hw 2 rfl) (ty := .long) (by decide) rfl rfl (g := (mkF m 17 #[.val (.ref a1), .val (.ref a2), .val (.long q1), .second, .val (.long q2), .second] [(.long q2), (.ref a1)])) rfl rfl (hb hby d4_17)
  have fw12 : Fld Z h12 a1 "com/example/docketline/docketline/cross/Interest" "sellShares" "J" (.long q2) := fa10.same W12
  have Z13 : n0 ≤ h12.size := Nat.le_trans Z8 (Nat.le_of_eq W12.size.symm)
  have K14 : Keep h0 h12 [a1] := K9.wr W12 (Or.inl (List.mem_of_getElem? (i := 0) rfl))
  have N12 := Fr.snoc X12 N7 g1
  obtain ⟨fs, hr, hrun, hended, hW, hsame⟩ := X12.leave (v := none) (fun _ => rfl)
  have fa15 : Exa Z h12 a1 "com/example/docketline/docketline/cross/Interest" := (fa11.wr W12)
  have fa16 : Fld Z h12 a1 "com/example/docketline/docketline/cross/Interest" "buyShares" "J" (.long q1) := (fw7.other W12 (Or.inr (slot_ne (Or.inr (ow hw 27 rfl)) (Or.inr (ow hw 29 rfl)) (by decide) (t := .long) (t' := .long) (by decide) (by decide))))
  refine ⟨_, _, pre0 _ ?_, hrun, hended, _, _, rfl, ?_, ⟨_, rfl⟩, hW, hsame.mono (by decide) (by decide)⟩
  · show Steps p.tables e below (s₁.setTop (mkF m 0 #[.val (.ref a1), .val (.ref a2), .val (.long q1), .second, .val (.long q2), .second] [])) _
    refine XS.aloadN X0.here hx rfl (hb hby d4_0) rfl rfl ?_
    show Steps p.tables e below (s₁.setTop (mkF m 1 #[.val (.ref a1), .val (.ref a2), .val (.long q1), .second, .val (.long q2), .second] [(.ref a1)])) _
    refine st1.trans ?_
    show Steps p.tables e below (T1.setTop (mkF m 4 #[.val (.ref a1), .val (.ref a2), .val (.long q1), .second, .val (.long q2), .second] [])) _
    refine XS.aloadN X1.here hx rfl (hb hby d4_4) rfl rfl ?_
    show Steps p.tables e below (T1.setTop (mkF m 5 #[.val (.ref a1), .val (.ref a2), .val (.long q1), .second, .val (.long q2), .second] [(.ref a1)])) _
    refine XS.aloadN X1.here hx rfl (hb hby d4_5) rfl rfl ?_
    show Steps p.tables e below (T1.setTop (mkF m 6 #[.val (.ref a1), .val (.ref a2), .val (.long q1), .second, .val (.long q2), .second] [(.ref a2), (.ref a1)])) _
    refine st2 _ ?_
    show Steps p.tables e below (T2.setTop (mkF m 9 #[.val (.ref a1), .val (.ref a2), .val (.long q1), .second, .val (.long q2), .second] [])) _
    refine XS.aloadN X2.here hx rfl (hb hby d4_9) rfl rfl ?_
    show Steps p.tables e below (T2.setTop (mkF m 10 #[.val (.ref a1), .val (.ref a2), .val (.long q1), .second, .val (.long q2), .second] [(.ref a1)])) _
    refine XS.lloadN X2.here hx rfl (hb hby d4_10) rfl  ?_
    show Steps p.tables e below (T2.setTop (mkF m 11 #[.val (.ref a1), .val (.ref a2), .val (.long q1), .second, .val (.long q2), .second] [(.long q1), (.ref a1)])) _
    refine st7 _ ?_
    show Steps p.tables e below (T7.setTop (mkF m 14 #[.val (.ref a1), .val (.ref a2), .val (.long q1), .second, .val (.long q2), .second] [])) _
    refine XS.aloadN X7.here hx rfl (hb hby d4_14) rfl rfl ?_
    show Steps p.tables e below (T7.setTop (mkF m 15 #[.val (.ref a1), .val (.ref a2), .val (.long q1), .second, .val (.long q2), .second] [(.ref a1)])) _
    refine XS.lload X7.here hx rfl (hb hby d4_15) rfl  ?_
    show Steps p.tables e below (T7.setTop (mkF m 17 #[.val (.ref a1), .val (.ref a2), .val (.long q1), .second, .val (.long q2), .second] [(.long q2), (.ref a1)])) _
    refine st12 _ ?_
    show Steps p.tables e below (T12.setTop (mkF m 20 #[.val (.ref a1), .val (.ref a2), .val (.long q1), .second, .val (.long q2), .second] [])) _
    exact X12.returnOut hx Bd.returns (hb hby d4_20) hr
  · show Q4 Z a1 a2 q1 q2 u1 u2 u3 h0 n0 _ T12.heap _
    rw [e12]
    exact ⟨rfl, N12, K14, fa15, fa16, fw12⟩
theorem d6_0 : decode jdk_29_method_61_code 0 = .ok (.lload_n 0, 1) := by decide +kernel
theorem d6_1 : decode jdk_29_method_61_code 1 = .ok (.lconst 0, 1) := by decide +kernel
theorem d6_2 : decode jdk_29_method_61_code 2 = .ok (.lcmp, 1) := by decide +kernel
theorem d6_3 : decode jdk_29_method_61_code 3 = .ok (.ifCond .ge 8, 3) := by decide +kernel
theorem d6_6 : decode jdk_29_method_61_code 6 = .ok (.lload_n 0, 1) := by decide +kernel
theorem d6_7 : decode jdk_29_method_61_code 7 = .ok (.lneg, 1) := by decide +kernel
theorem d6_8 : decode jdk_29_method_61_code 8 = .ok (.goto 4, 3) := by decide +kernel
theorem d6_12 : decode jdk_29_method_61_code 12 = .ok (.lreturn, 1) := by decide +kernel
theorem d6_11 : decode jdk_29_method_61_code 11 = .ok (.lload_n 0, 1) := by decide +kernel
theorem ef6 (m : MethodId) (q0 : Int64) : entryFrame m #[(.long q0)] 2 = mkF m 0 #[.val (.long q0), .second] [] := by first | (simp [entryFrame, mkF, argsToLocals, Value.category]; done) | rfl
def Q6 (Z : State) (q0 : Int64) (h0 : Heap) (n0 : Nat) (v : Option Value) (h : Heap) (L : List Loc) : Prop := v = some (.long (if q0 < (0 : Int64) then (-q0) else q0)) ∧ Fr n0 L ∧ h = h0
set_option maxRecDepth 65536 in
set_option maxHeartbeats 40000000 in
theorem rm6 (l : Launch) (Z : State) (a0 : Array Value) (hw : ∀ d ∈ tables_1, d.before a0 Z = true) (ws : List Jvm.Cond) (q0 : Int64) (h0 : Heap) (n0 : Nat) (Z0 : n0 ≤ h0.size) :
    MetFree l (⟨"java/lang/Math", "abs", "(J)J"⟩ : MethodName) (head1 (Jvm.Cond.code (⟨"java/lang/Math", "abs", "(J)J"⟩ : MethodName) jdk_29_method_61_code 2 (some .long) :: ws) ({ frames := 0, cells := 0, slots := 0, locals := 0 } : Room)) (fun a U => a = #[(.long q0)] ∧ Z.Warmed39 U.vm ∧ U.heap = h0) (fun _ _ _ _ _ => True) (fun _ U o U' => ∃ v L, o = .returned v ∧ Q6 Z q0 h0 n0 v U'.heap L ∧ FrameEnd U o U' L ({ frames := 0, cells := 0, slots := 0, locals := 0 } : Room).cells ({ frames := 0, cells := 0, slots := 0, locals := 0 } : Room).slots) := by
  refine MetFree.of_bodySF (Jvm.Free.JP.mathPlain rfl (by decide +kernel)) hisR ?_
  intro p e s m args below meth c s₁ Bd hml0 hP hK
  obtain ⟨rfl, hZ, hh⟩ := hP
  have hx := Bd.exec
  have hby := Bd.bytes
  have hml : c.maxLocals = 2 := hml0
  have hown : s.vm.findClass "java/lang/Math" = some m.cls := findClass_of_methodNamed Bd.named
  have hnm := (name_of_methodNamed Bd.named Bd.method).1
  have X0 : Stand p l e ({ frames := 0, cells := 0, slots := 0, locals := 0 } : Room) s m #[(.long q0)] below meth c s₁ [] 0 0 := Stand.of_body Bd
  have e0 : s₁.heap = h0 := by rw [← hh, Bd.state]; rfl
  have N0 := Fr.nil n0
  have pre0 : ∀ t, Steps p.tables e below (s₁.setTop (mkF m 0 #[.val (.long q0), .second] [])) t → Steps p.tables e below (s₁.setTop (entryFrame m #[(.long q0)] 2)) t := fun t k => castTop (ef6 m q0) k
  have pre1 : ∀ t, Steps p.tables e below (s₁.setTop (mkF m 3 #[.val (.long q0), .second] [(.int (lcmpW q0 (0 : Int64)))])) t → Steps p.tables e below (s₁.setTop (entryFrame m #[(.long q0)] 2)) t := fun t k => pre0 t (by
    show Steps p.tables e below (s₁.setTop (mkF m 0 #[.val (.long q0), .second] [])) _
    refine XS.lloadN X0.here hx rfl (hb hby d6_0) rfl  ?_
    show Steps p.tables e below (s₁.setTop (mkF m 1 #[.val (.long q0), .second] [(.long q0)])) _
    refine XS.lconst X0.here hx rfl (hb hby d6_1) ?_
    show Steps p.tables e below (s₁.setTop (mkF m 2 #[.val (.long q0), .second] [(.long (0 : Int64)), (.long q0)])) _
    refine XS.lcmp X0.here hx rfl (hb hby d6_2) rfl ?_
    exact k)
  by_cases hc2 : q0 < (0 : Int64)
  ·  -- yes
    obtain ⟨fs, hr, hrun, hended, hW, hsame⟩ := X0.leave (v := some (.long (-q0))) (fun h => by rw [Bd.returns] at h; cases h)
    refine ⟨_, _, pre1 _ ?_, hrun, hended, _, _, rfl, ?_, ⟨_, rfl⟩, hW, hsame.mono (by decide) (by decide)⟩
    · show Steps p.tables e below (s₁.setTop (mkF m 3 #[.val (.long q0), .second] [(.int (lcmpW q0 (0 : Int64)))])) _
      refine XS.ifNo X0.here hx rfl (hb hby d6_3) rfl ((if0 _ _).trans (tlt ((lw_lt _ _).mpr hc2)).2.1) ?_
      show Steps p.tables e below (s₁.setTop (mkF m 6 #[.val (.long q0), .second] [])) _
      refine XS.lloadN X0.here hx rfl (hb hby d6_6) rfl  ?_
      show Steps p.tables e below (s₁.setTop (mkF m 7 #[.val (.long q0), .second] [(.long q0)])) _
      refine XS.lneg X0.here hx rfl (hb hby d6_7) rfl ?_
      show Steps p.tables e below (s₁.setTop (mkF m 8 #[.val (.long q0), .second] [(.long (-q0))])) _
      refine XS.goto X0.here hx rfl (pc0 := 8) (pc' := 12) rfl (hb hby d6_8) (by decide) (by decide) ?_
      show Steps p.tables e below (s₁.setTop (mkF m 12 #[.val (.long q0), .second] [(.long (-q0))])) _
      exact X0.lreturnOut hx Bd.returns (hb hby d6_12) hr
    · show Q6 Z q0 h0 n0 _ s₁.heap _
      rw [e0]
      exact ⟨(congrArg (fun z => some (Value.long z)) (by first | rfl | (simp only [own_b, if_pos hc2]; done) | (simp [own_b, hc2]; done))), N0, rfl⟩
  ·  -- no
    obtain ⟨fs, hr, hrun, hended, hW, hsame⟩ := X0.leave (v := some (.long q0)) (fun h => by rw [Bd.returns] at h; cases h)
    refine ⟨_, _, pre1 _ ?_, hrun, hended, _, _, rfl, ?_, ⟨_, rfl⟩, hW, hsame.mono (by decide) (by decide)⟩
    · show Steps p.tables e below (s₁.setTop (mkF m 3 #[.val (.long q0), .second] [(.int (lcmpW q0 (0 : Int64)))])) _
      refine XS.ifYes X0.here hx rfl (pc0 := 3) (pc' := 11) rfl (hb hby d6_3) rfl ((if0 _ _).trans (flt (fun q => hc2 ((lw_lt _ _).mp q))).2.1) (by decide) (by decide) ?_
      show Steps p.tables e below (s₁.setTop (mkF m 11 #[.val (.long q0), .second] [])) _
      refine XS.lloadN X0.here hx rfl (hb hby d6_11) rfl  ?_
      show Steps p.tables e below (s₁.setTop (mkF m 12 #[.val (.long q0), .second] [(.long q0)])) _
      exact X0.lreturnOut hx Bd.returns (hb hby d6_12) hr
    · show Q6 Z q0 h0 n0 _ s₁.heap _
      rw [e0]
      exact ⟨(congrArg (fun z => some (Value.long z)) (by first | rfl | (simp only [own_b, if_neg hc2]; done) | (simp [own_b, hc2]; done))), N0, rfl⟩
theorem d5_0 : decode prog_40_method_3_code 0 = .ok (.aload_n 0, 1) := by decide +kernel
theorem d5_1 : decode prog_40_method_3_code 1 = .ok (.getfield 13, 3) := by decide +kernel
theorem d5_4 : decode prog_40_method_3_code 4 = .ok (.aload_n 0, 1) := by decide +kernel
theorem d5_5 : decode prog_40_method_3_code 5 = .ok (.getfield 17, 3) := by decide +kernel
theorem d5_8 : decode prog_40_method_3_code 8 = .ok (.lsub, 1) := by decide +kernel
theorem d5_9 : decode prog_40_method_3_code 9 = .ok (.invokestatic 26, 3) := by decide +kernel
theorem pd4 : parseMethodDescriptor "(J)J" = some ⟨[.long], some .long⟩ := by decide +kernel
theorem d5_12 : decode prog_40_method_3_code 12 = .ok (.lreturn, 1) := by decide +kernel
theorem ef5 (m : MethodId) (a1 : Addr) : entryFrame m #[(.ref a1)] 1 = mkF m 0 #[.val (.ref a1)] [] := by first | (simp [entryFrame, mkF, argsToLocals, Value.category]; done) | rfl
def Q5 (Z : State) (a1 : Addr) (q1 : Int64) (q2 : Int64) (h0 : Heap) (n0 : Nat) (v : Option Value) (h : Heap) (L : List Loc) : Prop := v = some (.long (if (q1 - q2) < (0 : Int64) then (-(q1 - q2)) else (q1 - q2))) ∧ Fr n0 L ∧ h = h0
set_option maxRecDepth 65536 in
set_option maxHeartbeats 40000000 in
theorem rm5 (l : Launch) (Z : State) (a0 : Array Value) (hw : ∀ d ∈ tables_1, d.before a0 Z = true) (ws : List Jvm.Cond) (a1 : Addr) (q1 : Int64) (q2 : Int64) (h0 : Heap) (n0 : Nat) (Z0 : n0 ≤ h0.size) (F2 : Fld Z h0 a1 "com/example/docketline/docketline/cross/Interest" "buyShares" "J" (.long q1)) (F3 : Fld Z h0 a1 "com/example/docketline/docketline/cross/Interest" "sellShares" "J" (.long q2)) :
    MetFree l (⟨"com/example/docketline/docketline/cross/Interest", "imbalance", "()J"⟩ : MethodName) (head1 (Jvm.Cond.code (⟨"com/example/docketline/docketline/cross/Interest", "imbalance", "()J"⟩ : MethodName) prog_40_method_3_code 1 (some .long) :: ws) ({ frames := 1, cells := 0, slots := 0, locals := 13 } : Room)) (fun a U => a = #[(.ref a1)] ∧ Z.Warmed39 U.vm ∧ U.heap = h0) (fun _ _ _ _ _ => True) (fun _ U o U' => ∃ v L, o = .returned v ∧ Q5 Z a1 q1 q2 h0 n0 v U'.heap L ∧ FrameEnd U o U' L ({ frames := 1, cells := 0, slots := 0, locals := 13 } : Room).cells ({ frames := 1, cells := 0, slots := 0, locals := 13 } : Room).slots) := by
  refine MetFree.of_bodySF (plainFor_of_name pn3) hisR ?_
  intro p e s m args below meth c s₁ Bd hml0 hP hK
  obtain ⟨rfl, hZ, hh⟩ := hP
  have hx := Bd.exec
  have hby := Bd.bytes
  have hml : c.maxLocals = 1 := hml0
  have hown : s.vm.findClass "com/example/docketline/docketline/cross/Interest" = some m.cls := findClass_of_methodNamed Bd.named
  have hnm := (name_of_methodNamed Bd.named Bd.method).1
  have X0 : Stand p l e ({ frames := 1, cells := 0, slots := 0, locals := 13 } : Room) s m #[(.ref a1)] below meth c s₁ [] 0 0 := Stand.of_body Bd
  have e0 : s₁.heap = h0 := by rw [← hh, Bd.state]; rfl
  have N0 := Fr.nil n0
  have pre0 : ∀ t, Steps p.tables e below (s₁.setTop (mkF m 0 #[.val (.ref a1)] [])) t → Steps p.tables e below (s₁.setTop (entryFrame m #[(.ref a1)] 1)) t := fun t k => castTop (ef5 m a1) k
  obtain ⟨T1, X1, e1, st1⟩ := getF X0 hx hZ hown (host := "") (Or.inl (ow hw 26 rfl)) Via.refl e0 F2 (g := (mkF m 1 #[.val (.ref a1)] [(.ref a1)])) rfl rfl (hb hby d5_1)
  obtain ⟨T2, X2, e2, st2⟩ := getF X1 hx hZ hown (host := "") (Or.inl (ow hw 28 rfl)) Via.refl e1 F3 (g := (mkF m 5 #[.val (.ref a1)] [(.ref a1), (.long q1)])) rfl rfl (hb hby d5_5)
  obtain ⟨_, _, ⟨T3, L3, k3, n3⟩, -, X3, ⟨Lc3, hQ3, l3, y3, z3⟩, st3⟩ := Jvm.LawKit.callS X2 hx (y := (⟨"java/lang/Math", "abs", "(J)J"⟩ : MethodName)) hown (mvT hZ (ow hw 35 rfl)) (mvT hZ (ow hw 36 rfl)) (mvT hZ (ow hw 37 rfl)) (mvT hZ (ow hw 38 rfl)) (by decide) (backOf (W := 0) (rm6 l Z a0 hw [] (q1 - q2) h0 n0 Z0 ) hZ (ow hw 38 rfl) (ow hw 37 rfl) (by decide) (by decide)) (g := (mkF m 9 #[.val (.ref a1)] [(.long (q1 - q2))])) rfl (by rw [hml]; rfl) (argsL := [(.long (q1 - q2))]) (rest := []) (lenOf pd4 rfl) rfl (by show 2 * 0 + _ ≤ _; exact Nat.le_of_eq rfl) (hb hby d5_9) (fun _ _ => ⟨rfl, e2, (by decide : 0 + 0 ≤ _), (by decide : 0 + 0 ≤ _)⟩)
  dsimp only [Pt.U, Pt.locs, Pt.cells, Pt.slots] at X3 l3 y3 z3 st3 hQ3
  subst l3 y3 z3
  obtain ⟨rfl, N3q, e3⟩ := hQ3
  have N3 := Fr.app N0 N3q
  obtain ⟨fs, hr, hrun, hended, hW, hsame⟩ := X3.leave (v := some (.long (if (q1 - q2) < (0 : Int64) then (-(q1 - q2)) else (q1 - q2)))) (fun h => by rw [Bd.returns] at h; cases h)
  refine ⟨_, _, pre0 _ ?_, hrun, hended, _, _, rfl, ?_, ⟨_, rfl⟩, hW, hsame.mono (by decide) (by decide)⟩
  · show Steps p.tables e below (s₁.setTop (mkF m 0 #[.val (.ref a1)] [])) _
    refine XS.aloadN X0.here hx rfl (hb hby d5_0) rfl rfl ?_
    show Steps p.tables e below (s₁.setTop (mkF m 1 #[.val (.ref a1)] [(.ref a1)])) _
    refine st1 _ ?_
    show Steps p.tables e below (T1.setTop (mkF m 4 #[.val (.ref a1)] [(.long q1)])) _
    refine XS.aloadN X1.here hx rfl (hb hby d5_4) rfl rfl ?_
    show Steps p.tables e below (T1.setTop (mkF m 5 #[.val (.ref a1)] [(.ref a1), (.long q1)])) _
    refine st2 _ ?_
    show Steps p.tables e below (T2.setTop (mkF m 8 #[.val (.ref a1)] [(.long q2), (.long q1)])) _
    refine XS.lsub X2.here hx rfl (hb hby d5_8) rfl ?_
    show Steps p.tables e below (T2.setTop (mkF m 9 #[.val (.ref a1)] [(.long (q1 - q2))])) _
    refine st3 _ ?_
    show Steps p.tables e below (T3.setTop (mkF m 12 #[.val (.ref a1)] [(.long (if (q1 - q2) < (0 : Int64) then (-(q1 - q2)) else (q1 - q2)))])) _
    exact X3.lreturnOut hx Bd.returns (hb hby d5_12) hr
  · show Q5 Z a1 q1 q2 h0 n0 _ T3.heap _
    rw [e3]
    exact ⟨rfl, N3, rfl⟩
theorem pn5 : plainName "com/example/docketline/docketline/cross/InterestImbalancePinLaw" = true := by first | (simp [plainName, overriddenIn]; done) | decide +kernel
theorem pd6 : parseMethodDescriptor "(J)V" = some ⟨[.long], none⟩ := by decide +kernel
theorem pd7 : parseMethodDescriptor "(Lcom/example/docketline/docketline/order/Price;JJ)V" = some ⟨[(.object "com/example/docketline/docketline/order/Price"), .long, .long], none⟩ := by decide +kernel
theorem pd8 : parseMethodDescriptor "()J" = some ⟨[], some .long⟩ := by decide +kernel
theorem ef0 (m : MethodId) (q1 : Int64) (q2 : Int64) (q3 : Int64) (p4 : Int32) : entryFrame m #[(.long q1), (.long q2), (.long q3), (.int p4)] maxLocals = mkF m 0 #[.val (.long q1), .second, .val (.long q2), .second, .val (.long q3), .second, .val (.int p4), .unset, .unset, .unset, .unset, .unset, .unset, .unset, .unset, .unset] [] := by first | (simp [entryFrame, mkF, argsToLocals, Value.category, maxLocals]; done) | rfl
def Q0 (Z : State) (q1 : Int64) (q2 : Int64) (q3 : Int64) (p4 : Int32) (h0 : Heap) (n0 : Nat) (v : Option Value) (h : Heap) (L : List Loc) : Prop := v = some (.int (1 : Int32)) ∧ Fr n0 L
set_option maxRecDepth 65536 in
set_option maxHeartbeats 40000000 in
theorem rm0 (l : Launch) (Z : State) (a0 : Array Value) (hw : ∀ d ∈ tables_1, d.before a0 Z = true) (ws : List Jvm.Cond) (q1 : Int64) (q2 : Int64) (q3 : Int64) (p4 : Int32) (h0 : Heap) (n0 : Nat) (Z0 : n0 ≤ h0.size) :
    MetFree l x (head1 (Jvm.Cond.code x code maxLocals ret :: ws) room_1) (fun a U => a = #[(.long q1), (.long q2), (.long q3), (.int p4)] ∧ Z.Warmed39 U.vm ∧ U.heap = h0) (fun _ _ _ _ _ => True) (fun _ U o U' => ∃ v L, o = .returned v ∧ Q0 Z q1 q2 q3 p4 h0 n0 v U'.heap L ∧ FrameEnd U o U' L room_1.cells room_1.slots) := by
  refine MetFree.of_bodySF (plainFor_of_name pn5) hisR ?_
  intro p e s m args below meth c s₁ Bd hml0 hP hK
  obtain ⟨rfl, hZ, hh⟩ := hP
  have hx := Bd.exec
  have hby := Bd.bytes
  have hml : c.maxLocals = 16 := hml0
  have hown : s.vm.findClass "com/example/docketline/docketline/cross/InterestImbalancePinLaw" = some m.cls := findClass_of_methodNamed Bd.named
  have hnm := (name_of_methodNamed Bd.named Bd.method).1
  have X0 : Stand p l e room_1 s m #[(.long q1), (.long q2), (.long q3), (.int p4)] below meth c s₁ [] 0 0 := Stand.of_body Bd
  have e0 : s₁.heap = h0 := by rw [← hh, Bd.state]; rfl
  have N0 := Fr.nil n0
  have pre0 : ∀ t, Steps p.tables e below (s₁.setTop (mkF m 0 #[.val (.long q1), .second, .val (.long q2), .second, .val (.long q3), .second, .val (.int p4), .unset, .unset, .unset, .unset, .unset, .unset, .unset, .unset, .unset] [])) t → Steps p.tables e below (s₁.setTop (entryFrame m #[(.long q1), (.long q2), (.long q3), (.int p4)] maxLocals)) t := fun t k => castTop (ef0 m q1 q2 q3 p4) k
  have pre1 : ∀ t, Steps p.tables e below (s₁.setTop (mkF m 11 #[.val (.long q1), .second, .val (.long q2), .second, .val (.long q3), .second, .val (.int p4), .val (.long (q2 &&& (9223372036854775807 : Int64))), .second, .unset, .unset, .unset, .unset, .unset, .unset, .unset] [(.int (p4 &&& (1 : Int32)))])) t → Steps p.tables e below (s₁.setTop (entryFrame m #[(.long q1), (.long q2), (.long q3), (.int p4)] maxLocals)) t := fun t k => pre0 t (by
    show Steps p.tables e below (s₁.setTop (mkF m 0 #[.val (.long q1), .second, .val (.long q2), .second, .val (.long q3), .second, .val (.int p4), .unset, .unset, .unset, .unset, .unset, .unset, .unset, .unset, .unset] [])) _
    refine XS.lloadN X0.here hx rfl (hb hby at_0) rfl  ?_
    show Steps p.tables e below (s₁.setTop (mkF m 1 #[.val (.long q1), .second, .val (.long q2), .second, .val (.long q3), .second, .val (.int p4), .unset, .unset, .unset, .unset, .unset, .unset, .unset, .unset, .unset] [(.long q2)])) _
    refine X0.ldc2Long hx hown (mvT hZ (ow hw 0 rfl)) (g := (mkF m 1 #[.val (.long q1), .second, .val (.long q2), .second, .val (.long q3), .second, .val (.int p4), .unset, .unset, .unset, .unset, .unset, .unset, .unset, .unset, .unset] [(.long q2)])) rfl (hb hby at_1) _ ?_
    show Steps p.tables e below (s₁.setTop (mkF m 4 #[.val (.long q1), .second, .val (.long q2), .second, .val (.long q3), .second, .val (.int p4), .unset, .unset, .unset, .unset, .unset, .unset, .unset, .unset, .unset] [(.long (9223372036854775807 : Int64)), (.long q2)])) _
    refine XS.land X0.here hx rfl (hb hby at_4) rfl ?_
    show Steps p.tables e below (s₁.setTop (mkF m 5 #[.val (.long q1), .second, .val (.long q2), .second, .val (.long q3), .second, .val (.int p4), .unset, .unset, .unset, .unset, .unset, .unset, .unset, .unset, .unset] [(.long (q2 &&& (9223372036854775807 : Int64)))])) _
    refine XS.lstore X0.here hx rfl (hb hby at_5) rfl (l' := #[.val (.long q1), .second, .val (.long q2), .second, .val (.long q3), .second, .val (.int p4), .val (.long (q2 &&& (9223372036854775807 : Int64))), .second, .unset, .unset, .unset, .unset, .unset, .unset, .unset]) rfl ?_
    show Steps p.tables e below (s₁.setTop (mkF m 7 #[.val (.long q1), .second, .val (.long q2), .second, .val (.long q3), .second, .val (.int p4), .val (.long (q2 &&& (9223372036854775807 : Int64))), .second, .unset, .unset, .unset, .unset, .unset, .unset, .unset] [])) _
    refine XS.iload X0.here hx rfl (hb hby at_7) rfl  ?_
    show Steps p.tables e below (s₁.setTop (mkF m 9 #[.val (.long q1), .second, .val (.long q2), .second, .val (.long q3), .second, .val (.int p4), .val (.long (q2 &&& (9223372036854775807 : Int64))), .second, .unset, .unset, .unset, .unset, .unset, .unset, .unset] [(.int p4)])) _
    refine XS.iconst X0.here hx rfl (hb hby at_9) ?_
    show Steps p.tables e below (s₁.setTop (mkF m 10 #[.val (.long q1), .second, .val (.long q2), .second, .val (.long q3), .second, .val (.int p4), .val (.long (q2 &&& (9223372036854775807 : Int64))), .second, .unset, .unset, .unset, .unset, .unset, .unset, .unset] [(.int (1 : Int32)), (.int p4)])) _
    refine XS.iand X0.here hx rfl (hb hby at_10) rfl ?_
    exact k)
  have pre3 : ∀ t, Steps p.tables e below (s₁.setTop (mkF m 25 #[.val (.long q1), .second, .val (.long q2), .second, .val (.long q3), .second, .val (.int p4), .val (.long (q2 &&& (9223372036854775807 : Int64))), .second, .unset, .unset, .unset, .unset, .unset, .unset, .unset] [(.long (if (p4 &&& (1 : Int32)) = (0 : Int32) then (q3 &&& (9223372036854775807 : Int64)) else (q2 &&& (9223372036854775807 : Int64))))])) t → Steps p.tables e below (s₁.setTop (entryFrame m #[(.long q1), (.long q2), (.long q3), (.int p4)] maxLocals)) t := fun t k => pre1 t (by
    by_cases hc2 : (p4 &&& (1 : Int32)) = (0 : Int32)
    ·  -- yes
      show Steps p.tables e below (s₁.setTop (mkF m 11 #[.val (.long q1), .second, .val (.long q2), .second, .val (.long q3), .second, .val (.int p4), .val (.long (q2 &&& (9223372036854775807 : Int64))), .second, .unset, .unset, .unset, .unset, .unset, .unset, .unset] [(.int (p4 &&& (1 : Int32)))])) _
      refine XS.ifYes X0.here hx rfl (pc0 := 11) (pc' := 19) rfl (hb hby at_11) rfl ((if0 _ _).trans (teq hc2).1) (by decide) (by decide) ?_
      show Steps p.tables e below (s₁.setTop (mkF m 19 #[.val (.long q1), .second, .val (.long q2), .second, .val (.long q3), .second, .val (.int p4), .val (.long (q2 &&& (9223372036854775807 : Int64))), .second, .unset, .unset, .unset, .unset, .unset, .unset, .unset] [])) _
      refine XS.lload X0.here hx rfl (hb hby at_19) rfl  ?_
      show Steps p.tables e below (s₁.setTop (mkF m 21 #[.val (.long q1), .second, .val (.long q2), .second, .val (.long q3), .second, .val (.int p4), .val (.long (q2 &&& (9223372036854775807 : Int64))), .second, .unset, .unset, .unset, .unset, .unset, .unset, .unset] [(.long q3)])) _
      refine X0.ldc2Long hx hown (mvT hZ (ow hw 0 rfl)) (g := (mkF m 21 #[.val (.long q1), .second, .val (.long q2), .second, .val (.long q3), .second, .val (.int p4), .val (.long (q2 &&& (9223372036854775807 : Int64))), .second, .unset, .unset, .unset, .unset, .unset, .unset, .unset] [(.long q3)])) rfl (hb hby at_21) _ ?_
      show Steps p.tables e below (s₁.setTop (mkF m 24 #[.val (.long q1), .second, .val (.long q2), .second, .val (.long q3), .second, .val (.int p4), .val (.long (q2 &&& (9223372036854775807 : Int64))), .second, .unset, .unset, .unset, .unset, .unset, .unset, .unset] [(.long (9223372036854775807 : Int64)), (.long q3)])) _
      refine XS.land X0.here hx rfl (hb hby at_24) rfl ?_
      have ek : (if (p4 &&& (1 : Int32)) = (0 : Int32) then (q3 &&& (9223372036854775807 : Int64)) else (q2 &&& (9223372036854775807 : Int64))) = (q3 &&& (9223372036854775807 : Int64)) := by simp [own_b, hc2]
      rw [ek] at k
      exact k
    ·  -- no
      show Steps p.tables e below (s₁.setTop (mkF m 11 #[.val (.long q1), .second, .val (.long q2), .second, .val (.long q3), .second, .val (.int p4), .val (.long (q2 &&& (9223372036854775807 : Int64))), .second, .unset, .unset, .unset, .unset, .unset, .unset, .unset] [(.int (p4 &&& (1 : Int32)))])) _
      refine XS.ifNo X0.here hx rfl (hb hby at_11) rfl ((if0 _ _).trans (feq hc2).1) ?_
      show Steps p.tables e below (s₁.setTop (mkF m 14 #[.val (.long q1), .second, .val (.long q2), .second, .val (.long q3), .second, .val (.int p4), .val (.long (q2 &&& (9223372036854775807 : Int64))), .second, .unset, .unset, .unset, .unset, .unset, .unset, .unset] [])) _
      refine XS.lload X0.here hx rfl (hb hby at_14) rfl  ?_
      show Steps p.tables e below (s₁.setTop (mkF m 16 #[.val (.long q1), .second, .val (.long q2), .second, .val (.long q3), .second, .val (.int p4), .val (.long (q2 &&& (9223372036854775807 : Int64))), .second, .unset, .unset, .unset, .unset, .unset, .unset, .unset] [(.long (q2 &&& (9223372036854775807 : Int64)))])) _
      refine XS.goto X0.here hx rfl (pc0 := 16) (pc' := 25) rfl (hb hby at_16) (by decide) (by decide) ?_
      have ek : (if (p4 &&& (1 : Int32)) = (0 : Int32) then (q3 &&& (9223372036854775807 : Int64)) else (q2 &&& (9223372036854775807 : Int64))) = (q2 &&& (9223372036854775807 : Int64)) := by simp [own_b, hc2]
      rw [ek] at k
      exact k)
  obtain ⟨sv, hsv⟩ : ∃ z, z = (if (p4 &&& (1 : Int32)) = (0 : Int32) then (q3 &&& (9223372036854775807 : Int64)) else (q2 &&& (9223372036854775807 : Int64))) := ⟨_, rfl⟩
  rw [← hsv] at pre3
  have hsv0 : ¬ (sv < (0 : Int64)) := by
    rw [hsv]; split
    · exact own_msk _
    · exact own_msk _
  obtain ⟨T4, h4, X4, e4, E4, A4, D4, -, st4⟩ := newO X0 hx hZ hown (ow hw 1 rfl) (ow hw 2 rfl) (ow hw 3 rfl) e0 (g := (mkF m 27 #[.val (.long q1), .second, .val (.long q2), .second, .val (.long q3), .second, .val (.int p4), .val (.long (q2 &&& (9223372036854775807 : Int64))), .second, .val (.long sv), .second, .unset, .unset, .unset, .unset, .unset] [])) rfl (hb hby at_27) (by decide) (by decide)
  obtain ⟨b4, g4⟩ : ∃ z, z = h0.size := ⟨_, rfl⟩
  rw [← g4] at A4 D4 st4
  have gn_b4 : n0 ≤ b4 := Nat.le_trans Z0 (Nat.le_of_eq g4.symm)
  have Z5 : n0 ≤ h4.size := Nat.le_trans Z0 E4.1
  have F_price_b4 : Fld Z h4 b4 "com/example/docketline/docketline/cross/Interest" "price" "Lcom/example/docketline/docketline/order/Price;" .null := D4 (Or.inr (ow hw 25 rfl)) (ty := (.object "com/example/docketline/docketline/order/Price")) (by decide)
  have F_buyShares_b4 : Fld Z h4 b4 "com/example/docketline/docketline/cross/Interest" "buyShares" "J" (.long (0 : Int64)) := D4 (Or.inr (ow hw 27 rfl)) (ty := .long) (by decide)
  have F_sellShares_b4 : Fld Z h4 b4 "com/example/docketline/docketline/cross/Interest" "sellShares" "J" (.long (0 : Int64)) := D4 (Or.inr (ow hw 29 rfl)) (ty := .long) (by decide)
  obtain ⟨T6, h6, X6, e6, E6, A6, D6, -, st6⟩ := newO X4 hx hZ hown (ow hw 4 rfl) (ow hw 5 rfl) (ow hw 6 rfl) e4 (g := (mkF m 31 #[.val (.long q1), .second, .val (.long q2), .second, .val (.long q3), .second, .val (.int p4), .val (.long (q2 &&& (9223372036854775807 : Int64))), .second, .val (.long sv), .second, .unset, .unset, .unset, .unset, .unset] [(.ref b4), (.ref b4)])) rfl (hb hby at_31) (by decide) (by decide)
  obtain ⟨b6, g6⟩ : ∃ z, z = h4.size := ⟨_, rfl⟩
  rw [← g6] at A6 D6 st6
  have ne7 : b4 ≠ b6 := Nat.ne_of_lt (Nat.lt_of_lt_of_le A4.lt (Nat.le_of_eq g6.symm))
  have gn_b6 : n0 ≤ b6 := Nat.le_trans Z5 (Nat.le_of_eq g6.symm)
  have Z8 : n0 ≤ h6.size := Nat.le_trans Z5 E6.1
  have F_ticks_b6 : Fld Z h6 b6 "com/example/docketline/docketline/order/Price" "ticks" "J" (.long (0 : Int64)) := D6 (Or.inr (ow hw 19 rfl)) (ty := .long) (by decide)
  obtain ⟨_, _, ⟨T9, L9, k9, n9⟩, -, X9, ⟨Lc9, hQ9, l9, y9, z9⟩, st9⟩ := X6.specialBack hx (y := (⟨"com/example/docketline/docketline/order/Price", "<init>", "(J)V"⟩ : MethodName)) rfl hown (mvT hZ (ow hw 7 rfl)) (mvT hZ (ow hw 8 rfl)) (mvT hZ (ow hw 9 rfl)) (by decide) (backOf (W := 3) (rm1 l Z a0 hw [] b6 (q1 &&& (9223372036854775807 : Int64)) (.long (0 : Int64)) h6 n0 Z8 A6 F_ticks_b6 gn_b6 (own_msk q1)) hZ (ow hw 9 rfl) (ow hw 6 rfl) (by decide) (by decide)) (g := (mkF m 40 #[.val (.long q1), .second, .val (.long q2), .second, .val (.long q3), .second, .val (.int p4), .val (.long (q2 &&& (9223372036854775807 : Int64))), .second, .val (.long sv), .second, .unset, .unset, .unset, .unset, .unset] [(.long (q1 &&& (9223372036854775807 : Int64))), (.ref b6), (.ref b6), (.ref b4), (.ref b4)])) rfl (by rw [hml]; rfl) (Steps.refl _) (a := b6) (argsL := [(.long (q1 &&& (9223372036854775807 : Int64)))]) (rest := [(.ref b6), (.ref b4), (.ref b4)]) (lenOf pd6 rfl) rfl (by show 2 * 0 + _ ≤ _; exact Nat.le_of_eq rfl) (hb hby at_40) (fun _ _ => ⟨rfl, e6, (by decide : 2 + 0 ≤ _), (by decide : 4 + 0 ≤ _)⟩)
  dsimp only [Pt.U, Pt.locs, Pt.cells, Pt.slots] at X9 l9 y9 z9 st9 hQ9
  subst l9 y9 z9
  obtain ⟨rfl, N9q, K9, f9_0⟩ := hQ9
  have N9 := Fr.app N0 N9q
  have Z10 : n0 ≤ T9.heap.size := Nat.le_trans Z8 K9.1
  have fa11 : Exa Z T9.heap b4 "com/example/docketline/docketline/cross/Interest" := ((A4.ext E6).keep K9)
  have fa12 : Fld Z T9.heap b4 "com/example/docketline/docketline/cross/Interest" "price" "Lcom/example/docketline/docketline/order/Price;" .null := ((F_price_b4.ext E6).keep K9 (ninS ne7 nin0))
  have fa13 : Fld Z T9.heap b4 "com/example/docketline/docketline/cross/Interest" "buyShares" "J" (.long (0 : Int64)) := ((F_buyShares_b4.ext E6).keep K9 (ninS ne7 nin0))
  have fa14 : Fld Z T9.heap b4 "com/example/docketline/docketline/cross/Interest" "sellShares" "J" (.long (0 : Int64)) := ((F_sellShares_b4.ext E6).keep K9 (ninS ne7 nin0))
  obtain ⟨_, _, ⟨T15, L15, k15, n15⟩, -, X15, ⟨Lc15, hQ15, l15, y15, z15⟩, st15⟩ := X9.specialBack hx (y := (⟨"com/example/docketline/docketline/cross/Interest", "<init>", "(Lcom/example/docketline/docketline/order/Price;JJ)V"⟩ : MethodName)) rfl hown (mvT hZ (ow hw 20 rfl)) (mvT hZ (ow hw 21 rfl)) (mvT hZ (ow hw 22 rfl)) (by decide) (backOf (W := 1) (rm4 l Z a0 hw [] b4 b6 (q2 &&& (9223372036854775807 : Int64)) sv .null (.long (0 : Int64)) (.long (0 : Int64)) T9.heap n0 Z10 fa11 fa12 fa13 fa14 gn_b4) hZ (ow hw 22 rfl) (ow hw 3 rfl) (by decide) (by decide)) (g := (mkF m 47 #[.val (.long q1), .second, .val (.long q2), .second, .val (.long q3), .second, .val (.int p4), .val (.long (q2 &&& (9223372036854775807 : Int64))), .second, .val (.long sv), .second, .unset, .unset, .unset, .unset, .unset] [(.long sv), (.long (q2 &&& (9223372036854775807 : Int64))), (.ref b6), (.ref b4), (.ref b4)])) rfl (by rw [hml]; rfl) (Steps.refl _) (a := b4) (argsL := [(.ref b6), (.long (q2 &&& (9223372036854775807 : Int64))), (.long sv)]) (rest := [(.ref b4)]) (lenOf pd7 rfl) rfl (by show 2 * 0 + _ ≤ _; exact Nat.le_of_eq rfl) (hb hby at_47) (fun _ _ => ⟨rfl, rfl, (by decide : 2 + 0 ≤ _), (by decide : 4 + 0 ≤ _)⟩)
  dsimp only [Pt.U, Pt.locs, Pt.cells, Pt.slots] at X15 l15 y15 z15 st15 hQ15
  subst l15 y15 z15
  obtain ⟨rfl, N15q, K15, f15_0, f15_1, f15_2⟩ := hQ15
  have N15 := Fr.app N9 N15q
  have Z16 : n0 ≤ T15.heap.size := Nat.le_trans Z10 K15.1
  obtain ⟨cq17, kq17, q17a, q17b, q17c⟩ := isOf hZ rfl f15_0
  obtain ⟨_, _, ⟨T17, L17, k17, n17⟩, -, X17, ⟨Lc17, hQ17, l17, y17, z17⟩, st17⟩ := X15.virtualBack hx (y := (⟨"com/example/docketline/docketline/cross/Interest", "imbalance", "()J"⟩ : MethodName)) (z := (⟨"com/example/docketline/docketline/cross/Interest", "imbalance", "()J"⟩ : MethodName)) hown (mvT hZ (ow hw 30 rfl)) (mvT hZ (ow hw 31 rfl)) (notFace_of_selects (args := #[]) (mvT hZ (ow hw 33 rfl))) (mvT hZ (ow hw 33 rfl)) (mvT hZ (ow hw 32 rfl)) (by decide) (backOf (W := 0) (rm5 l Z a0 hw [] b4 (q2 &&& (9223372036854775807 : Int64)) sv T15.heap n0 Z16 f15_1 f15_2) hZ (ow hw 34 rfl) (ow hw 3 rfl) (by decide) (by decide)) q17a q17c (g := (mkF m 54 #[.val (.long q1), .second, .val (.long q2), .second, .val (.long q3), .second, .val (.int p4), .val (.long (q2 &&& (9223372036854775807 : Int64))), .second, .val (.long sv), .second, .val (.ref b4), .unset, .unset, .unset, .unset] [(.ref b4)])) rfl (by rw [hml]; rfl) (Steps.refl _) (argsL := []) (rest := []) (lenOf pd8 rfl) rfl (by show 2 * 0 + _ ≤ _; exact Nat.le_of_eq rfl) (hb hby at_54) (fun _ _ => ⟨rfl, rfl, (by decide : 2 + 0 ≤ _), (by decide : 4 + 0 ≤ _)⟩)
  dsimp only [Pt.U, Pt.locs, Pt.cells, Pt.slots] at X17 l17 y17 z17 st17 hQ17
  subst l17 y17 z17
  obtain ⟨rfl, N17q, e17⟩ := hQ17
  have N17 := Fr.app N15 N17q
  have pre18 : ∀ t, Steps p.tables e below (T17.setTop (mkF m 64 #[.val (.long q1), .second, .val (.long q2), .second, .val (.long q3), .second, .val (.int p4), .val (.long (q2 &&& (9223372036854775807 : Int64))), .second, .val (.long sv), .second, .val (.ref b4), .val (.long (if ((q2 &&& (9223372036854775807 : Int64)) - sv) < (0 : Int64) then (-((q2 &&& (9223372036854775807 : Int64)) - sv)) else ((q2 &&& (9223372036854775807 : Int64)) - sv))), .second, .unset, .unset] [(.int (lcmpW (q2 &&& (9223372036854775807 : Int64)) sv))])) t → Steps p.tables e below (s₁.setTop (entryFrame m #[(.long q1), (.long q2), (.long q3), (.int p4)] maxLocals)) t := fun t k => pre3 t (by
    show Steps p.tables e below (s₁.setTop (mkF m 25 #[.val (.long q1), .second, .val (.long q2), .second, .val (.long q3), .second, .val (.int p4), .val (.long (q2 &&& (9223372036854775807 : Int64))), .second, .unset, .unset, .unset, .unset, .unset, .unset, .unset] [(.long sv)])) _
    refine XS.lstore X0.here hx rfl (hb hby at_25) rfl (l' := #[.val (.long q1), .second, .val (.long q2), .second, .val (.long q3), .second, .val (.int p4), .val (.long (q2 &&& (9223372036854775807 : Int64))), .second, .val (.long sv), .second, .unset, .unset, .unset, .unset, .unset]) rfl ?_
    show Steps p.tables e below (s₁.setTop (mkF m 27 #[.val (.long q1), .second, .val (.long q2), .second, .val (.long q3), .second, .val (.int p4), .val (.long (q2 &&& (9223372036854775807 : Int64))), .second, .val (.long sv), .second, .unset, .unset, .unset, .unset, .unset] [])) _
    refine st4 _ ?_
    show Steps p.tables e below (T4.setTop (mkF m 30 #[.val (.long q1), .second, .val (.long q2), .second, .val (.long q3), .second, .val (.int p4), .val (.long (q2 &&& (9223372036854775807 : Int64))), .second, .val (.long sv), .second, .unset, .unset, .unset, .unset, .unset] [(.ref b4)])) _
    refine XS.dup X4.here hx rfl (hb hby at_30) rfl rfl ?_
    show Steps p.tables e below (T4.setTop (mkF m 31 #[.val (.long q1), .second, .val (.long q2), .second, .val (.long q3), .second, .val (.int p4), .val (.long (q2 &&& (9223372036854775807 : Int64))), .second, .val (.long sv), .second, .unset, .unset, .unset, .unset, .unset] [(.ref b4), (.ref b4)])) _
    refine st6 _ ?_
    show Steps p.tables e below (T6.setTop (mkF m 34 #[.val (.long q1), .second, .val (.long q2), .second, .val (.long q3), .second, .val (.int p4), .val (.long (q2 &&& (9223372036854775807 : Int64))), .second, .val (.long sv), .second, .unset, .unset, .unset, .unset, .unset] [(.ref b6), (.ref b4), (.ref b4)])) _
    refine XS.dup X6.here hx rfl (hb hby at_34) rfl rfl ?_
    show Steps p.tables e below (T6.setTop (mkF m 35 #[.val (.long q1), .second, .val (.long q2), .second, .val (.long q3), .second, .val (.int p4), .val (.long (q2 &&& (9223372036854775807 : Int64))), .second, .val (.long sv), .second, .unset, .unset, .unset, .unset, .unset] [(.ref b6), (.ref b6), (.ref b4), (.ref b4)])) _
    refine XS.lloadN X6.here hx rfl (hb hby at_35) rfl  ?_
    show Steps p.tables e below (T6.setTop (mkF m 36 #[.val (.long q1), .second, .val (.long q2), .second, .val (.long q3), .second, .val (.int p4), .val (.long (q2 &&& (9223372036854775807 : Int64))), .second, .val (.long sv), .second, .unset, .unset, .unset, .unset, .unset] [(.long q1), (.ref b6), (.ref b6), (.ref b4), (.ref b4)])) _
    refine X6.ldc2Long hx hown (mvT hZ (ow hw 0 rfl)) (g := (mkF m 36 #[.val (.long q1), .second, .val (.long q2), .second, .val (.long q3), .second, .val (.int p4), .val (.long (q2 &&& (9223372036854775807 : Int64))), .second, .val (.long sv), .second, .unset, .unset, .unset, .unset, .unset] [(.long q1), (.ref b6), (.ref b6), (.ref b4), (.ref b4)])) rfl (hb hby at_36) _ ?_
    show Steps p.tables e below (T6.setTop (mkF m 39 #[.val (.long q1), .second, .val (.long q2), .second, .val (.long q3), .second, .val (.int p4), .val (.long (q2 &&& (9223372036854775807 : Int64))), .second, .val (.long sv), .second, .unset, .unset, .unset, .unset, .unset] [(.long (9223372036854775807 : Int64)), (.long q1), (.ref b6), (.ref b6), (.ref b4), (.ref b4)])) _
    refine XS.land X6.here hx rfl (hb hby at_39) rfl ?_
    show Steps p.tables e below (T6.setTop (mkF m 40 #[.val (.long q1), .second, .val (.long q2), .second, .val (.long q3), .second, .val (.int p4), .val (.long (q2 &&& (9223372036854775807 : Int64))), .second, .val (.long sv), .second, .unset, .unset, .unset, .unset, .unset] [(.long (q1 &&& (9223372036854775807 : Int64))), (.ref b6), (.ref b6), (.ref b4), (.ref b4)])) _
    refine st9.trans ?_
    show Steps p.tables e below (T9.setTop (mkF m 43 #[.val (.long q1), .second, .val (.long q2), .second, .val (.long q3), .second, .val (.int p4), .val (.long (q2 &&& (9223372036854775807 : Int64))), .second, .val (.long sv), .second, .unset, .unset, .unset, .unset, .unset] [(.ref b6), (.ref b4), (.ref b4)])) _
    refine XS.lload X9.here hx rfl (hb hby at_43) rfl  ?_
    show Steps p.tables e below (T9.setTop (mkF m 45 #[.val (.long q1), .second, .val (.long q2), .second, .val (.long q3), .second, .val (.int p4), .val (.long (q2 &&& (9223372036854775807 : Int64))), .second, .val (.long sv), .second, .unset, .unset, .unset, .unset, .unset] [(.long (q2 &&& (9223372036854775807 : Int64))), (.ref b6), (.ref b4), (.ref b4)])) _
    refine XS.lload X9.here hx rfl (hb hby at_45) rfl  ?_
    show Steps p.tables e below (T9.setTop (mkF m 47 #[.val (.long q1), .second, .val (.long q2), .second, .val (.long q3), .second, .val (.int p4), .val (.long (q2 &&& (9223372036854775807 : Int64))), .second, .val (.long sv), .second, .unset, .unset, .unset, .unset, .unset] [(.long sv), (.long (q2 &&& (9223372036854775807 : Int64))), (.ref b6), (.ref b4), (.ref b4)])) _
    refine st15.trans ?_
    show Steps p.tables e below (T15.setTop (mkF m 50 #[.val (.long q1), .second, .val (.long q2), .second, .val (.long q3), .second, .val (.int p4), .val (.long (q2 &&& (9223372036854775807 : Int64))), .second, .val (.long sv), .second, .unset, .unset, .unset, .unset, .unset] [(.ref b4)])) _
    refine XS.astore X15.here hx rfl (hb hby at_50) rfl rfl (l' := #[.val (.long q1), .second, .val (.long q2), .second, .val (.long q3), .second, .val (.int p4), .val (.long (q2 &&& (9223372036854775807 : Int64))), .second, .val (.long sv), .second, .val (.ref b4), .unset, .unset, .unset, .unset]) rfl ?_
    show Steps p.tables e below (T15.setTop (mkF m 52 #[.val (.long q1), .second, .val (.long q2), .second, .val (.long q3), .second, .val (.int p4), .val (.long (q2 &&& (9223372036854775807 : Int64))), .second, .val (.long sv), .second, .val (.ref b4), .unset, .unset, .unset, .unset] [])) _
    refine XS.aload X15.here hx rfl (hb hby at_52) rfl rfl ?_
    show Steps p.tables e below (T15.setTop (mkF m 54 #[.val (.long q1), .second, .val (.long q2), .second, .val (.long q3), .second, .val (.int p4), .val (.long (q2 &&& (9223372036854775807 : Int64))), .second, .val (.long sv), .second, .val (.ref b4), .unset, .unset, .unset, .unset] [(.ref b4)])) _
    refine st17.trans ?_
    show Steps p.tables e below (T17.setTop (mkF m 57 #[.val (.long q1), .second, .val (.long q2), .second, .val (.long q3), .second, .val (.int p4), .val (.long (q2 &&& (9223372036854775807 : Int64))), .second, .val (.long sv), .second, .val (.ref b4), .unset, .unset, .unset, .unset] [(.long (if ((q2 &&& (9223372036854775807 : Int64)) - sv) < (0 : Int64) then (-((q2 &&& (9223372036854775807 : Int64)) - sv)) else ((q2 &&& (9223372036854775807 : Int64)) - sv)))])) _
    refine XS.lstore X17.here hx rfl (hb hby at_57) rfl (l' := #[.val (.long q1), .second, .val (.long q2), .second, .val (.long q3), .second, .val (.int p4), .val (.long (q2 &&& (9223372036854775807 : Int64))), .second, .val (.long sv), .second, .val (.ref b4), .val (.long (if ((q2 &&& (9223372036854775807 : Int64)) - sv) < (0 : Int64) then (-((q2 &&& (9223372036854775807 : Int64)) - sv)) else ((q2 &&& (9223372036854775807 : Int64)) - sv))), .second, .unset, .unset]) rfl ?_
    show Steps p.tables e below (T17.setTop (mkF m 59 #[.val (.long q1), .second, .val (.long q2), .second, .val (.long q3), .second, .val (.int p4), .val (.long (q2 &&& (9223372036854775807 : Int64))), .second, .val (.long sv), .second, .val (.ref b4), .val (.long (if ((q2 &&& (9223372036854775807 : Int64)) - sv) < (0 : Int64) then (-((q2 &&& (9223372036854775807 : Int64)) - sv)) else ((q2 &&& (9223372036854775807 : Int64)) - sv))), .second, .unset, .unset] [])) _
    refine XS.lload X17.here hx rfl (hb hby at_59) rfl  ?_
    show Steps p.tables e below (T17.setTop (mkF m 61 #[.val (.long q1), .second, .val (.long q2), .second, .val (.long q3), .second, .val (.int p4), .val (.long (q2 &&& (9223372036854775807 : Int64))), .second, .val (.long sv), .second, .val (.ref b4), .val (.long (if ((q2 &&& (9223372036854775807 : Int64)) - sv) < (0 : Int64) then (-((q2 &&& (9223372036854775807 : Int64)) - sv)) else ((q2 &&& (9223372036854775807 : Int64)) - sv))), .second, .unset, .unset] [(.long (q2 &&& (9223372036854775807 : Int64)))])) _
    refine XS.lload X17.here hx rfl (hb hby at_61) rfl  ?_
    show Steps p.tables e below (T17.setTop (mkF m 63 #[.val (.long q1), .second, .val (.long q2), .second, .val (.long q3), .second, .val (.int p4), .val (.long (q2 &&& (9223372036854775807 : Int64))), .second, .val (.long sv), .second, .val (.ref b4), .val (.long (if ((q2 &&& (9223372036854775807 : Int64)) - sv) < (0 : Int64) then (-((q2 &&& (9223372036854775807 : Int64)) - sv)) else ((q2 &&& (9223372036854775807 : Int64)) - sv))), .second, .unset, .unset] [(.long sv), (.long (q2 &&& (9223372036854775807 : Int64)))])) _
    refine XS.lcmp X17.here hx rfl (hb hby at_63) rfl ?_
    exact k)
  by_cases hc19 : (q2 &&& (9223372036854775807 : Int64)) < sv
  ·  -- yes
    obtain ⟨fs, hr, hrun, hended, hW, hsame⟩ := X17.leave (v := some (.int (1 : Int32))) (fun h => by rw [Bd.returns] at h; cases h)
    refine ⟨_, _, pre18 _ ?_, hrun, hended, _, _, rfl, ?_, ⟨_, rfl⟩, hW, hsame.mono (by decide) (by decide)⟩
    · show Steps p.tables e below (T17.setTop (mkF m 64 #[.val (.long q1), .second, .val (.long q2), .second, .val (.long q3), .second, .val (.int p4), .val (.long (q2 &&& (9223372036854775807 : Int64))), .second, .val (.long sv), .second, .val (.ref b4), .val (.long (if ((q2 &&& (9223372036854775807 : Int64)) - sv) < (0 : Int64) then (-((q2 &&& (9223372036854775807 : Int64)) - sv)) else ((q2 &&& (9223372036854775807 : Int64)) - sv))), .second, .unset, .unset] [(.int (lcmpW (q2 &&& (9223372036854775807 : Int64)) sv))])) _
      refine XS.ifYes X17.here hx rfl (pc0 := 64) (pc' := 77) rfl (hb hby at_64) rfl ((if0 _ _).trans (tlt ((lw_lt _ _).mpr hc19)).1) (by decide) (by decide) ?_
      show Steps p.tables e below (T17.setTop (mkF m 77 #[.val (.long q1), .second, .val (.long q2), .second, .val (.long q3), .second, .val (.int p4), .val (.long (q2 &&& (9223372036854775807 : Int64))), .second, .val (.long sv), .second, .val (.ref b4), .val (.long (if ((q2 &&& (9223372036854775807 : Int64)) - sv) < (0 : Int64) then (-((q2 &&& (9223372036854775807 : Int64)) - sv)) else ((q2 &&& (9223372036854775807 : Int64)) - sv))), .second, .unset, .unset] [])) _
      refine XS.lload X17.here hx rfl (hb hby at_77) rfl  ?_
      show Steps p.tables e below (T17.setTop (mkF m 79 #[.val (.long q1), .second, .val (.long q2), .second, .val (.long q3), .second, .val (.int p4), .val (.long (q2 &&& (9223372036854775807 : Int64))), .second, .val (.long sv), .second, .val (.ref b4), .val (.long (if ((q2 &&& (9223372036854775807 : Int64)) - sv) < (0 : Int64) then (-((q2 &&& (9223372036854775807 : Int64)) - sv)) else ((q2 &&& (9223372036854775807 : Int64)) - sv))), .second, .unset, .unset] [(.long sv)])) _
      refine XS.lload X17.here hx rfl (hb hby at_79) rfl  ?_
      show Steps p.tables e below (T17.setTop (mkF m 81 #[.val (.long q1), .second, .val (.long q2), .second, .val (.long q3), .second, .val (.int p4), .val (.long (q2 &&& (9223372036854775807 : Int64))), .second, .val (.long sv), .second, .val (.ref b4), .val (.long (if ((q2 &&& (9223372036854775807 : Int64)) - sv) < (0 : Int64) then (-((q2 &&& (9223372036854775807 : Int64)) - sv)) else ((q2 &&& (9223372036854775807 : Int64)) - sv))), .second, .unset, .unset] [(.long (q2 &&& (9223372036854775807 : Int64))), (.long sv)])) _
      refine XS.lsub X17.here hx rfl (hb hby at_81) rfl ?_
      show Steps p.tables e below (T17.setTop (mkF m 82 #[.val (.long q1), .second, .val (.long q2), .second, .val (.long q3), .second, .val (.int p4), .val (.long (q2 &&& (9223372036854775807 : Int64))), .second, .val (.long sv), .second, .val (.ref b4), .val (.long (if ((q2 &&& (9223372036854775807 : Int64)) - sv) < (0 : Int64) then (-((q2 &&& (9223372036854775807 : Int64)) - sv)) else ((q2 &&& (9223372036854775807 : Int64)) - sv))), .second, .unset, .unset] [(.long (sv - (q2 &&& (9223372036854775807 : Int64))))])) _
      refine XS.lstore X17.here hx rfl (hb hby at_82) rfl (l' := #[.val (.long q1), .second, .val (.long q2), .second, .val (.long q3), .second, .val (.int p4), .val (.long (q2 &&& (9223372036854775807 : Int64))), .second, .val (.long sv), .second, .val (.ref b4), .val (.long (if ((q2 &&& (9223372036854775807 : Int64)) - sv) < (0 : Int64) then (-((q2 &&& (9223372036854775807 : Int64)) - sv)) else ((q2 &&& (9223372036854775807 : Int64)) - sv))), .second, .val (.long (sv - (q2 &&& (9223372036854775807 : Int64)))), .second]) rfl ?_
      show Steps p.tables e below (T17.setTop (mkF m 84 #[.val (.long q1), .second, .val (.long q2), .second, .val (.long q3), .second, .val (.int p4), .val (.long (q2 &&& (9223372036854775807 : Int64))), .second, .val (.long sv), .second, .val (.ref b4), .val (.long (if ((q2 &&& (9223372036854775807 : Int64)) - sv) < (0 : Int64) then (-((q2 &&& (9223372036854775807 : Int64)) - sv)) else ((q2 &&& (9223372036854775807 : Int64)) - sv))), .second, .val (.long (sv - (q2 &&& (9223372036854775807 : Int64)))), .second] [])) _
      refine XS.lload X17.here hx rfl (hb hby at_84) rfl  ?_
      show Steps p.tables e below (T17.setTop (mkF m 86 #[.val (.long q1), .second, .val (.long q2), .second, .val (.long q3), .second, .val (.int p4), .val (.long (q2 &&& (9223372036854775807 : Int64))), .second, .val (.long sv), .second, .val (.ref b4), .val (.long (if ((q2 &&& (9223372036854775807 : Int64)) - sv) < (0 : Int64) then (-((q2 &&& (9223372036854775807 : Int64)) - sv)) else ((q2 &&& (9223372036854775807 : Int64)) - sv))), .second, .val (.long (sv - (q2 &&& (9223372036854775807 : Int64)))), .second] [(.long (if ((q2 &&& (9223372036854775807 : Int64)) - sv) < (0 : Int64) then (-((q2 &&& (9223372036854775807 : Int64)) - sv)) else ((q2 &&& (9223372036854775807 : Int64)) - sv)))])) _
      refine XS.lload X17.here hx rfl (hb hby at_86) rfl  ?_
      show Steps p.tables e below (T17.setTop (mkF m 88 #[.val (.long q1), .second, .val (.long q2), .second, .val (.long q3), .second, .val (.int p4), .val (.long (q2 &&& (9223372036854775807 : Int64))), .second, .val (.long sv), .second, .val (.ref b4), .val (.long (if ((q2 &&& (9223372036854775807 : Int64)) - sv) < (0 : Int64) then (-((q2 &&& (9223372036854775807 : Int64)) - sv)) else ((q2 &&& (9223372036854775807 : Int64)) - sv))), .second, .val (.long (sv - (q2 &&& (9223372036854775807 : Int64)))), .second] [(.long (sv - (q2 &&& (9223372036854775807 : Int64)))), (.long (if ((q2 &&& (9223372036854775807 : Int64)) - sv) < (0 : Int64) then (-((q2 &&& (9223372036854775807 : Int64)) - sv)) else ((q2 &&& (9223372036854775807 : Int64)) - sv)))])) _
      refine XS.lcmp X17.here hx rfl (hb hby at_88) rfl ?_
      show Steps p.tables e below (T17.setTop (mkF m 89 #[.val (.long q1), .second, .val (.long q2), .second, .val (.long q3), .second, .val (.int p4), .val (.long (q2 &&& (9223372036854775807 : Int64))), .second, .val (.long sv), .second, .val (.ref b4), .val (.long (if ((q2 &&& (9223372036854775807 : Int64)) - sv) < (0 : Int64) then (-((q2 &&& (9223372036854775807 : Int64)) - sv)) else ((q2 &&& (9223372036854775807 : Int64)) - sv))), .second, .val (.long (sv - (q2 &&& (9223372036854775807 : Int64)))), .second] [(.int (lcmpW (if ((q2 &&& (9223372036854775807 : Int64)) - sv) < (0 : Int64) then (-((q2 &&& (9223372036854775807 : Int64)) - sv)) else ((q2 &&& (9223372036854775807 : Int64)) - sv)) (sv - (q2 &&& (9223372036854775807 : Int64)))))])) _
      refine XS.ifNo X17.here hx rfl (hb hby at_89) rfl ((if0 _ _).trans (teq ((lw_eq _ _).mpr ((own_abs (own_msk q2) hsv0).1 hc19))).2) ?_
      show Steps p.tables e below (T17.setTop (mkF m 92 #[.val (.long q1), .second, .val (.long q2), .second, .val (.long q3), .second, .val (.int p4), .val (.long (q2 &&& (9223372036854775807 : Int64))), .second, .val (.long sv), .second, .val (.ref b4), .val (.long (if ((q2 &&& (9223372036854775807 : Int64)) - sv) < (0 : Int64) then (-((q2 &&& (9223372036854775807 : Int64)) - sv)) else ((q2 &&& (9223372036854775807 : Int64)) - sv))), .second, .val (.long (sv - (q2 &&& (9223372036854775807 : Int64)))), .second] [])) _
      refine XS.lload X17.here hx rfl (hb hby at_92) rfl  ?_
      show Steps p.tables e below (T17.setTop (mkF m 94 #[.val (.long q1), .second, .val (.long q2), .second, .val (.long q3), .second, .val (.int p4), .val (.long (q2 &&& (9223372036854775807 : Int64))), .second, .val (.long sv), .second, .val (.ref b4), .val (.long (if ((q2 &&& (9223372036854775807 : Int64)) - sv) < (0 : Int64) then (-((q2 &&& (9223372036854775807 : Int64)) - sv)) else ((q2 &&& (9223372036854775807 : Int64)) - sv))), .second, .val (.long (sv - (q2 &&& (9223372036854775807 : Int64)))), .second] [(.long (if ((q2 &&& (9223372036854775807 : Int64)) - sv) < (0 : Int64) then (-((q2 &&& (9223372036854775807 : Int64)) - sv)) else ((q2 &&& (9223372036854775807 : Int64)) - sv)))])) _
      refine XS.lconst X17.here hx rfl (hb hby at_94) ?_
      show Steps p.tables e below (T17.setTop (mkF m 95 #[.val (.long q1), .second, .val (.long q2), .second, .val (.long q3), .second, .val (.int p4), .val (.long (q2 &&& (9223372036854775807 : Int64))), .second, .val (.long sv), .second, .val (.ref b4), .val (.long (if ((q2 &&& (9223372036854775807 : Int64)) - sv) < (0 : Int64) then (-((q2 &&& (9223372036854775807 : Int64)) - sv)) else ((q2 &&& (9223372036854775807 : Int64)) - sv))), .second, .val (.long (sv - (q2 &&& (9223372036854775807 : Int64)))), .second] [(.long (0 : Int64)), (.long (if ((q2 &&& (9223372036854775807 : Int64)) - sv) < (0 : Int64) then (-((q2 &&& (9223372036854775807 : Int64)) - sv)) else ((q2 &&& (9223372036854775807 : Int64)) - sv)))])) _
      refine XS.lcmp X17.here hx rfl (hb hby at_95) rfl ?_
      show Steps p.tables e below (T17.setTop (mkF m 96 #[.val (.long q1), .second, .val (.long q2), .second, .val (.long q3), .second, .val (.int p4), .val (.long (q2 &&& (9223372036854775807 : Int64))), .second, .val (.long sv), .second, .val (.ref b4), .val (.long (if ((q2 &&& (9223372036854775807 : Int64)) - sv) < (0 : Int64) then (-((q2 &&& (9223372036854775807 : Int64)) - sv)) else ((q2 &&& (9223372036854775807 : Int64)) - sv))), .second, .val (.long (sv - (q2 &&& (9223372036854775807 : Int64)))), .second] [(.int (lcmpW (if ((q2 &&& (9223372036854775807 : Int64)) - sv) < (0 : Int64) then (-((q2 &&& (9223372036854775807 : Int64)) - sv)) else ((q2 &&& (9223372036854775807 : Int64)) - sv)) (0 : Int64)))])) _
      refine XS.ifNo X17.here hx rfl (hb hby at_96) rfl ((if0 _ _).trans (flt (fun q => (own_abs (own_msk q2) hsv0).2.2 ((lw_lt _ _).mp q))).1) ?_
      show Steps p.tables e below (T17.setTop (mkF m 99 #[.val (.long q1), .second, .val (.long q2), .second, .val (.long q3), .second, .val (.int p4), .val (.long (q2 &&& (9223372036854775807 : Int64))), .second, .val (.long sv), .second, .val (.ref b4), .val (.long (if ((q2 &&& (9223372036854775807 : Int64)) - sv) < (0 : Int64) then (-((q2 &&& (9223372036854775807 : Int64)) - sv)) else ((q2 &&& (9223372036854775807 : Int64)) - sv))), .second, .val (.long (sv - (q2 &&& (9223372036854775807 : Int64)))), .second] [])) _
      refine XS.iconst X17.here hx rfl (hb hby at_99) ?_
      show Steps p.tables e below (T17.setTop (mkF m 100 #[.val (.long q1), .second, .val (.long q2), .second, .val (.long q3), .second, .val (.int p4), .val (.long (q2 &&& (9223372036854775807 : Int64))), .second, .val (.long sv), .second, .val (.ref b4), .val (.long (if ((q2 &&& (9223372036854775807 : Int64)) - sv) < (0 : Int64) then (-((q2 &&& (9223372036854775807 : Int64)) - sv)) else ((q2 &&& (9223372036854775807 : Int64)) - sv))), .second, .val (.long (sv - (q2 &&& (9223372036854775807 : Int64)))), .second] [(.int (1 : Int32))])) _
      refine XS.goto X17.here hx rfl (pc0 := 100) (pc' := 104) rfl (hb hby at_100) (by decide) (by decide) ?_
      show Steps p.tables e below (T17.setTop (mkF m 104 #[.val (.long q1), .second, .val (.long q2), .second, .val (.long q3), .second, .val (.int p4), .val (.long (q2 &&& (9223372036854775807 : Int64))), .second, .val (.long sv), .second, .val (.ref b4), .val (.long (if ((q2 &&& (9223372036854775807 : Int64)) - sv) < (0 : Int64) then (-((q2 &&& (9223372036854775807 : Int64)) - sv)) else ((q2 &&& (9223372036854775807 : Int64)) - sv))), .second, .val (.long (sv - (q2 &&& (9223372036854775807 : Int64)))), .second] [(.int (1 : Int32))])) _
      exact retN X17 hx (t := .boolean) Bd.returns (by simp) (hb hby at_104) hr
    · show Q0 Z q1 q2 q3 p4 h0 n0 _ T17.heap _
      rw [e17]
      exact ⟨rfl, N17⟩
  ·  -- no
    obtain ⟨fs, hr, hrun, hended, hW, hsame⟩ := X17.leave (v := some (.int (1 : Int32))) (fun h => by rw [Bd.returns] at h; cases h)
    refine ⟨_, _, pre18 _ ?_, hrun, hended, _, _, rfl, ?_, ⟨_, rfl⟩, hW, hsame.mono (by decide) (by decide)⟩
    · show Steps p.tables e below (T17.setTop (mkF m 64 #[.val (.long q1), .second, .val (.long q2), .second, .val (.long q3), .second, .val (.int p4), .val (.long (q2 &&& (9223372036854775807 : Int64))), .second, .val (.long sv), .second, .val (.ref b4), .val (.long (if ((q2 &&& (9223372036854775807 : Int64)) - sv) < (0 : Int64) then (-((q2 &&& (9223372036854775807 : Int64)) - sv)) else ((q2 &&& (9223372036854775807 : Int64)) - sv))), .second, .unset, .unset] [(.int (lcmpW (q2 &&& (9223372036854775807 : Int64)) sv))])) _
      refine XS.ifNo X17.here hx rfl (hb hby at_64) rfl ((if0 _ _).trans (flt (fun q => hc19 ((lw_lt _ _).mp q))).1) ?_
      show Steps p.tables e below (T17.setTop (mkF m 67 #[.val (.long q1), .second, .val (.long q2), .second, .val (.long q3), .second, .val (.int p4), .val (.long (q2 &&& (9223372036854775807 : Int64))), .second, .val (.long sv), .second, .val (.ref b4), .val (.long (if ((q2 &&& (9223372036854775807 : Int64)) - sv) < (0 : Int64) then (-((q2 &&& (9223372036854775807 : Int64)) - sv)) else ((q2 &&& (9223372036854775807 : Int64)) - sv))), .second, .unset, .unset] [])) _
      refine XS.lload X17.here hx rfl (hb hby at_67) rfl  ?_
      show Steps p.tables e below (T17.setTop (mkF m 69 #[.val (.long q1), .second, .val (.long q2), .second, .val (.long q3), .second, .val (.int p4), .val (.long (q2 &&& (9223372036854775807 : Int64))), .second, .val (.long sv), .second, .val (.ref b4), .val (.long (if ((q2 &&& (9223372036854775807 : Int64)) - sv) < (0 : Int64) then (-((q2 &&& (9223372036854775807 : Int64)) - sv)) else ((q2 &&& (9223372036854775807 : Int64)) - sv))), .second, .unset, .unset] [(.long (q2 &&& (9223372036854775807 : Int64)))])) _
      refine XS.lload X17.here hx rfl (hb hby at_69) rfl  ?_
      show Steps p.tables e below (T17.setTop (mkF m 71 #[.val (.long q1), .second, .val (.long q2), .second, .val (.long q3), .second, .val (.int p4), .val (.long (q2 &&& (9223372036854775807 : Int64))), .second, .val (.long sv), .second, .val (.ref b4), .val (.long (if ((q2 &&& (9223372036854775807 : Int64)) - sv) < (0 : Int64) then (-((q2 &&& (9223372036854775807 : Int64)) - sv)) else ((q2 &&& (9223372036854775807 : Int64)) - sv))), .second, .unset, .unset] [(.long sv), (.long (q2 &&& (9223372036854775807 : Int64)))])) _
      refine XS.lsub X17.here hx rfl (hb hby at_71) rfl ?_
      show Steps p.tables e below (T17.setTop (mkF m 72 #[.val (.long q1), .second, .val (.long q2), .second, .val (.long q3), .second, .val (.int p4), .val (.long (q2 &&& (9223372036854775807 : Int64))), .second, .val (.long sv), .second, .val (.ref b4), .val (.long (if ((q2 &&& (9223372036854775807 : Int64)) - sv) < (0 : Int64) then (-((q2 &&& (9223372036854775807 : Int64)) - sv)) else ((q2 &&& (9223372036854775807 : Int64)) - sv))), .second, .unset, .unset] [(.long ((q2 &&& (9223372036854775807 : Int64)) - sv))])) _
      refine XS.lstore X17.here hx rfl (hb hby at_72) rfl (l' := #[.val (.long q1), .second, .val (.long q2), .second, .val (.long q3), .second, .val (.int p4), .val (.long (q2 &&& (9223372036854775807 : Int64))), .second, .val (.long sv), .second, .val (.ref b4), .val (.long (if ((q2 &&& (9223372036854775807 : Int64)) - sv) < (0 : Int64) then (-((q2 &&& (9223372036854775807 : Int64)) - sv)) else ((q2 &&& (9223372036854775807 : Int64)) - sv))), .second, .val (.long ((q2 &&& (9223372036854775807 : Int64)) - sv)), .second]) rfl ?_
      show Steps p.tables e below (T17.setTop (mkF m 74 #[.val (.long q1), .second, .val (.long q2), .second, .val (.long q3), .second, .val (.int p4), .val (.long (q2 &&& (9223372036854775807 : Int64))), .second, .val (.long sv), .second, .val (.ref b4), .val (.long (if ((q2 &&& (9223372036854775807 : Int64)) - sv) < (0 : Int64) then (-((q2 &&& (9223372036854775807 : Int64)) - sv)) else ((q2 &&& (9223372036854775807 : Int64)) - sv))), .second, .val (.long ((q2 &&& (9223372036854775807 : Int64)) - sv)), .second] [])) _
      refine XS.goto X17.here hx rfl (pc0 := 74) (pc' := 84) rfl (hb hby at_74) (by decide) (by decide) ?_
      show Steps p.tables e below (T17.setTop (mkF m 84 #[.val (.long q1), .second, .val (.long q2), .second, .val (.long q3), .second, .val (.int p4), .val (.long (q2 &&& (9223372036854775807 : Int64))), .second, .val (.long sv), .second, .val (.ref b4), .val (.long (if ((q2 &&& (9223372036854775807 : Int64)) - sv) < (0 : Int64) then (-((q2 &&& (9223372036854775807 : Int64)) - sv)) else ((q2 &&& (9223372036854775807 : Int64)) - sv))), .second, .val (.long ((q2 &&& (9223372036854775807 : Int64)) - sv)), .second] [])) _
      refine XS.lload X17.here hx rfl (hb hby at_84) rfl  ?_
      show Steps p.tables e below (T17.setTop (mkF m 86 #[.val (.long q1), .second, .val (.long q2), .second, .val (.long q3), .second, .val (.int p4), .val (.long (q2 &&& (9223372036854775807 : Int64))), .second, .val (.long sv), .second, .val (.ref b4), .val (.long (if ((q2 &&& (9223372036854775807 : Int64)) - sv) < (0 : Int64) then (-((q2 &&& (9223372036854775807 : Int64)) - sv)) else ((q2 &&& (9223372036854775807 : Int64)) - sv))), .second, .val (.long ((q2 &&& (9223372036854775807 : Int64)) - sv)), .second] [(.long (if ((q2 &&& (9223372036854775807 : Int64)) - sv) < (0 : Int64) then (-((q2 &&& (9223372036854775807 : Int64)) - sv)) else ((q2 &&& (9223372036854775807 : Int64)) - sv)))])) _
      refine XS.lload X17.here hx rfl (hb hby at_86) rfl  ?_
      show Steps p.tables e below (T17.setTop (mkF m 88 #[.val (.long q1), .second, .val (.long q2), .second, .val (.long q3), .second, .val (.int p4), .val (.long (q2 &&& (9223372036854775807 : Int64))), .second, .val (.long sv), .second, .val (.ref b4), .val (.long (if ((q2 &&& (9223372036854775807 : Int64)) - sv) < (0 : Int64) then (-((q2 &&& (9223372036854775807 : Int64)) - sv)) else ((q2 &&& (9223372036854775807 : Int64)) - sv))), .second, .val (.long ((q2 &&& (9223372036854775807 : Int64)) - sv)), .second] [(.long ((q2 &&& (9223372036854775807 : Int64)) - sv)), (.long (if ((q2 &&& (9223372036854775807 : Int64)) - sv) < (0 : Int64) then (-((q2 &&& (9223372036854775807 : Int64)) - sv)) else ((q2 &&& (9223372036854775807 : Int64)) - sv)))])) _
      refine XS.lcmp X17.here hx rfl (hb hby at_88) rfl ?_
      show Steps p.tables e below (T17.setTop (mkF m 89 #[.val (.long q1), .second, .val (.long q2), .second, .val (.long q3), .second, .val (.int p4), .val (.long (q2 &&& (9223372036854775807 : Int64))), .second, .val (.long sv), .second, .val (.ref b4), .val (.long (if ((q2 &&& (9223372036854775807 : Int64)) - sv) < (0 : Int64) then (-((q2 &&& (9223372036854775807 : Int64)) - sv)) else ((q2 &&& (9223372036854775807 : Int64)) - sv))), .second, .val (.long ((q2 &&& (9223372036854775807 : Int64)) - sv)), .second] [(.int (lcmpW (if ((q2 &&& (9223372036854775807 : Int64)) - sv) < (0 : Int64) then (-((q2 &&& (9223372036854775807 : Int64)) - sv)) else ((q2 &&& (9223372036854775807 : Int64)) - sv)) ((q2 &&& (9223372036854775807 : Int64)) - sv)))])) _
      refine XS.ifNo X17.here hx rfl (hb hby at_89) rfl ((if0 _ _).trans (teq ((lw_eq _ _).mpr ((own_abs (own_msk q2) hsv0).2.1 hc19))).2) ?_
      show Steps p.tables e below (T17.setTop (mkF m 92 #[.val (.long q1), .second, .val (.long q2), .second, .val (.long q3), .second, .val (.int p4), .val (.long (q2 &&& (9223372036854775807 : Int64))), .second, .val (.long sv), .second, .val (.ref b4), .val (.long (if ((q2 &&& (9223372036854775807 : Int64)) - sv) < (0 : Int64) then (-((q2 &&& (9223372036854775807 : Int64)) - sv)) else ((q2 &&& (9223372036854775807 : Int64)) - sv))), .second, .val (.long ((q2 &&& (9223372036854775807 : Int64)) - sv)), .second] [])) _
      refine XS.lload X17.here hx rfl (hb hby at_92) rfl  ?_
      show Steps p.tables e below (T17.setTop (mkF m 94 #[.val (.long q1), .second, .val (.long q2), .second, .val (.long q3), .second, .val (.int p4), .val (.long (q2 &&& (9223372036854775807 : Int64))), .second, .val (.long sv), .second, .val (.ref b4), .val (.long (if ((q2 &&& (9223372036854775807 : Int64)) - sv) < (0 : Int64) then (-((q2 &&& (9223372036854775807 : Int64)) - sv)) else ((q2 &&& (9223372036854775807 : Int64)) - sv))), .second, .val (.long ((q2 &&& (9223372036854775807 : Int64)) - sv)), .second] [(.long (if ((q2 &&& (9223372036854775807 : Int64)) - sv) < (0 : Int64) then (-((q2 &&& (9223372036854775807 : Int64)) - sv)) else ((q2 &&& (9223372036854775807 : Int64)) - sv)))])) _
      refine XS.lconst X17.here hx rfl (hb hby at_94) ?_
      show Steps p.tables e below (T17.setTop (mkF m 95 #[.val (.long q1), .second, .val (.long q2), .second, .val (.long q3), .second, .val (.int p4), .val (.long (q2 &&& (9223372036854775807 : Int64))), .second, .val (.long sv), .second, .val (.ref b4), .val (.long (if ((q2 &&& (9223372036854775807 : Int64)) - sv) < (0 : Int64) then (-((q2 &&& (9223372036854775807 : Int64)) - sv)) else ((q2 &&& (9223372036854775807 : Int64)) - sv))), .second, .val (.long ((q2 &&& (9223372036854775807 : Int64)) - sv)), .second] [(.long (0 : Int64)), (.long (if ((q2 &&& (9223372036854775807 : Int64)) - sv) < (0 : Int64) then (-((q2 &&& (9223372036854775807 : Int64)) - sv)) else ((q2 &&& (9223372036854775807 : Int64)) - sv)))])) _
      refine XS.lcmp X17.here hx rfl (hb hby at_95) rfl ?_
      show Steps p.tables e below (T17.setTop (mkF m 96 #[.val (.long q1), .second, .val (.long q2), .second, .val (.long q3), .second, .val (.int p4), .val (.long (q2 &&& (9223372036854775807 : Int64))), .second, .val (.long sv), .second, .val (.ref b4), .val (.long (if ((q2 &&& (9223372036854775807 : Int64)) - sv) < (0 : Int64) then (-((q2 &&& (9223372036854775807 : Int64)) - sv)) else ((q2 &&& (9223372036854775807 : Int64)) - sv))), .second, .val (.long ((q2 &&& (9223372036854775807 : Int64)) - sv)), .second] [(.int (lcmpW (if ((q2 &&& (9223372036854775807 : Int64)) - sv) < (0 : Int64) then (-((q2 &&& (9223372036854775807 : Int64)) - sv)) else ((q2 &&& (9223372036854775807 : Int64)) - sv)) (0 : Int64)))])) _
      refine XS.ifNo X17.here hx rfl (hb hby at_96) rfl ((if0 _ _).trans (flt (fun q => (own_abs (own_msk q2) hsv0).2.2 ((lw_lt _ _).mp q))).1) ?_
      show Steps p.tables e below (T17.setTop (mkF m 99 #[.val (.long q1), .second, .val (.long q2), .second, .val (.long q3), .second, .val (.int p4), .val (.long (q2 &&& (9223372036854775807 : Int64))), .second, .val (.long sv), .second, .val (.ref b4), .val (.long (if ((q2 &&& (9223372036854775807 : Int64)) - sv) < (0 : Int64) then (-((q2 &&& (9223372036854775807 : Int64)) - sv)) else ((q2 &&& (9223372036854775807 : Int64)) - sv))), .second, .val (.long ((q2 &&& (9223372036854775807 : Int64)) - sv)), .second] [])) _
      refine XS.iconst X17.here hx rfl (hb hby at_99) ?_
      show Steps p.tables e below (T17.setTop (mkF m 100 #[.val (.long q1), .second, .val (.long q2), .second, .val (.long q3), .second, .val (.int p4), .val (.long (q2 &&& (9223372036854775807 : Int64))), .second, .val (.long sv), .second, .val (.ref b4), .val (.long (if ((q2 &&& (9223372036854775807 : Int64)) - sv) < (0 : Int64) then (-((q2 &&& (9223372036854775807 : Int64)) - sv)) else ((q2 &&& (9223372036854775807 : Int64)) - sv))), .second, .val (.long ((q2 &&& (9223372036854775807 : Int64)) - sv)), .second] [(.int (1 : Int32))])) _
      refine XS.goto X17.here hx rfl (pc0 := 100) (pc' := 104) rfl (hb hby at_100) (by decide) (by decide) ?_
      show Steps p.tables e below (T17.setTop (mkF m 104 #[.val (.long q1), .second, .val (.long q2), .second, .val (.long q3), .second, .val (.int p4), .val (.long (q2 &&& (9223372036854775807 : Int64))), .second, .val (.long sv), .second, .val (.ref b4), .val (.long (if ((q2 &&& (9223372036854775807 : Int64)) - sv) < (0 : Int64) then (-((q2 &&& (9223372036854775807 : Int64)) - sv)) else ((q2 &&& (9223372036854775807 : Int64)) - sv))), .second, .val (.long ((q2 &&& (9223372036854775807 : Int64)) - sv)), .second] [(.int (1 : Int32))])) _
      exact retN X17 hx (t := .boolean) Bd.returns (by simp) (hb hby at_104) hr
    · show Q0 Z q1 q2 q3 p4 h0 n0 _ T17.heap _
      rw [e17]
      exact ⟨rfl, N17⟩
set_option maxRecDepth 65536 in
set_option maxHeartbeats 40000000 in
theorem comes_1 {Post : Tables → Env → Array Value → State → Outcome → State → Prop} (hpost : ∀ tb e args s v u, (limb_1_1.after args s (.returned v) u = true ∧ limb_1_2.after args s (.returned v) u = true ∧ True) → FrameEnd s (.returned v) u (Jvm.fieldLocs frame_1_writes args s ++ Jvm.arrayLocs frame_1_arrays args s ++ Jvm.staticLocs frame_1_statics s) 16 128 → Post tb e args s (.returned v) u) :
    ArmFor flags0 classFile x code maxLocals ret World_1 tables_1 room_1 Calls_1 rest_1 Pre_1 Post := by
  intro l hfl _ _ p e ha hc hk s m args below hf hA hF happ hP
  obtain ⟨hcalls, hrest, hpre⟩ := hP
  obtain ⟨-, -, -, hnamed, -, -, -, hat⟩ := (Spec.applies_iff hf).mp happ
  obtain ⟨hg, hn⟩ := and_e (Cond.before_iff.mp (show (Jvm.Cond.and given_1 narrow_1).before args s = true from hpre))
  obtain ⟨g1, g2⟩ := and_e hg
  obtain ⟨g3, g4⟩ := and_e g2
  obtain ⟨g5, g6⟩ := and_e g4
  obtain ⟨g7, g8⟩ := and_e g6
  obtain ⟨w0, w1, w2, w3, rfl⟩ : ∃ w0 w1 w2 w3 : Value, args = #[w0, w1, w2, w3] := by
    have hs : args.size = 4 := by simpa [Cond.value, given_1] using g1
    obtain ⟨L⟩ := args
    match L, hs with
    | [w0, w1, w2, w3], _ => exact ⟨w0, w1, w2, w3, rfl⟩
  have hw := fun d (hd : d ∈ tables_1) => atoms_spec (ws := Jvm.Cond.code x code maxLocals ret :: tables_1) hat d (List.mem_cons_of_mem _ hd)
  have hfit : Fit s := fun {y c} hc i hi => by
    obtain ⟨ha, rfl⟩ := Array.getElem?_eq_some_iff.mp hc
    have q := List.all_eq_true.mp ((Array.all_eq_true_iff_forall_mem.mp hF) _ (Array.getElem_mem ha)) i (List.mem_range.mpr hi)
    simpa [Array.getElem?_eq_getElem hi] using q
  obtain ⟨i0, ei0⟩ := isL_v g3
  obtain rfl : w0 = (.long i0) := Option.some.inj ei0
  obtain ⟨i1, ei1⟩ := isL_v g5
  obtain rfl : w1 = (.long i1) := Option.some.inj ei1
  obtain ⟨i2, ei2⟩ := isL_v g7
  obtain rfl : w2 = (.long i2) := Option.some.inj ei2
  obtain ⟨i3, ei3⟩ := is_v g8
  obtain rfl : w3 = (.int i3) := Option.some.inj ei3
  obtain ⟨n, o, h1, h2, h3, _, L, rfl, ⟨rfl, N⟩, hq⟩ := rm0 l s _ hw tables_1 i0 i1 i2 i3  s.heap s.heap.size (Nat.le_refl _)  p e ha hc hk s m _ below hf ((Spec.applies_iff_loose hf).mp happ).1 ⟨rfl, State.Warmed39.refl s, rfl⟩ trivial
  refine ⟨n, _, h1, h2, h3, hpost _ _ _ _ _ _ ⟨Cond.after_iff.mpr rfl, Cond.after_iff.mpr (eq_i res_at (Term.int_eval (1)) rfl), trivial⟩ ⟨hq.1, hq.2.1, (hq.2.2.sift fun y hy => Or.inr (N y hy)).mono (by decide) (by decide)⟩⟩
theorem main_1_1 : Claimed_1_1 := comes_1 fun _ _ _ _ _ _ h hF => ⟨h.1, hF⟩
theorem main_1_2 : Claimed_1_2 := comes_1 fun _ _ _ _ _ _ h hF => ⟨h.2.1, hF⟩
end Jvm.Pilot.@@N@@
namespace Jvm.Pilot.@@N@@
open Jvm Jvm.ClassFile Sem Op Lib Jvm.Free Jvm.Stand Jvm.Pilot.@@N@@.Jvm.D
/-! MADE BY PROGRAM (witnessworld.py) out of the Statement's table words and the real class files: 13 classes; the members and pool entries that the words name. The judged class is class 1, her method 1. -/
namespace start1
open Jvm.ClassFile
def u (s : String) : CpInfo := .utf8 (stringToUtf16 s)
/-- a pool by its gaps: so many unusable entries, then the entry; so many at the end -/
def gap : Nat → List CpInfo → List CpInfo
  | 0, r => r
  | n + 1, r => .unusable :: gap n r
def poolList (es : List (Nat × CpInfo)) (last : Nat) : List CpInfo := es.foldr (fun e r => gap e.1 (e.2 :: r)) (gap last [])
def pool (es : List (Nat × CpInfo)) (last : Nat) : Array CpInfo := ⟨poolList es last⟩
def fileOf (pool : Array CpInfo) (this : Nat) (attrs : Array Attribute := #[]) (ms : Array MethodInfo := #[]) (fl : Nat := 33) (sup : Nat := 0) (ifs : Array Nat := #[]) (fds : Array FieldInfo := #[]) : ClassFile where
  minorVersion := 0
  majorVersion := 65
  constantPool := pool
  accessFlags := fl
  thisClass := this
  superClass := sup
  interfaces := ifs
  fields := fds
  methods := ms
  attributes := attrs
def plain (name : String) (sup : Option ClassId) : Class where
  name := name
  kind := .ordinary
  loader := none
  accessFlags := 33
  super := sup
  interfaces := #[]
  cf := none
  fields := #[]
  methods := #[]
  instanceTypes := #[]
  staticTypes := #[]
  resolved := #[]
  callSites := []
  init := .initialized
  statics := none
  mirror := none

def pool0 : Array CpInfo := pool [(5, u "<init>"), (0, u "()V"), (1, .class_ 10), (1, u "java/lang/Object")] 113

def k0c0 : Code := { maxStack := 0, maxLocals := 1, code := object_method_1_code, exceptionTable := #[], attributes := #[] }
def k0m0 : Method := { name := "<init>", desc := "()V", sig := { parameters := [], returnType := none }, accessFlags := 1, code := some k0c0 }
/-- java/lang/Object -/
def k0 : Class := { plain "java/lang/Object" none with
  accessFlags := 33
  interfaces := #[]
  cf := some (fileOf pool0 8 #[] #[{ accessFlags := 1, nameIndex := 5, descriptorIndex := 6, attributes := #[] }] 33 0 #[] #[])
  fields := #[]
  methods := #[k0m0]
  instanceTypes := #[]
  staticTypes := #[]
  resolved := Array.replicate 124 none
  statics := none }

def pool1 : Array CpInfo := pool [(2, .class_ 4), (1, u "java/lang/Object"), (0, u "<init>"), (0, u "()V"), (2, .long 9223372036854775807), (1, .class_ 12), (0, u "com/example/docketline/docketline/cross/Interest"), (0, .class_ 14), (0, u "com/example/docketline/docketline/order/Price"), (0, .methodref 13 16), (0, .nameAndType 5 17), (0, u "(J)V"), (0, .methodref 11 19), (0, .nameAndType 5 20), (0, u "(Lcom/example/docketline/docketline/order/Price;JJ)V"), (0, .methodref 11 22), (0, .nameAndType 23 24), (0, u "imbalance"), (0, u "()J"), (0, .class_ 26), (0, u "com/example/docketline/docketline/cross/InterestImbalancePinLaw"), (2, u "law"), (0, u "(JJJI)Z")] 3

def k1m0 : Method := { name := "<init>", desc := "()V", sig := { parameters := [], returnType := none }, accessFlags := 1, code := none }
def k1c1 : Code := { maxStack := 8, maxLocals := 16, code := code, exceptionTable := #[], attributes := #[] }
def k1m1 : Method := { name := "law", desc := "(JJJI)Z", sig := { parameters := [.long, .long, .long, .int], returnType := some .boolean }, accessFlags := 9, code := some k1c1 }
/-- com/example/docketline/docketline/cross/InterestImbalancePinLaw -/
def k1 : Class := { plain "com/example/docketline/docketline/cross/InterestImbalancePinLaw" (some 0) with
  accessFlags := 49
  interfaces := #[]
  cf := some (fileOf pool1 25 #[] #[{ accessFlags := 1, nameIndex := 5, descriptorIndex := 6, attributes := #[] }, { accessFlags := 9, nameIndex := 29, descriptorIndex := 30, attributes := #[] }] 49 2 #[] #[])
  fields := #[]
  methods := #[k1m0, k1m1]
  instanceTypes := #[]
  staticTypes := #[]
  resolved := Array.replicate 34 none
  statics := none }

def pool2 : Array CpInfo := pool [(1, .methodref 2 3), (0, .class_ 4), (0, .nameAndType 5 6), (0, u "java/lang/Object"), (0, u "<init>"), (0, u "()V"), (0, .class_ 8), (0, u "java/lang/Record")] 13

def k2c0 : Code := { maxStack := 1, maxLocals := 1, code := jdk_30_method_1_code, exceptionTable := #[], attributes := #[] }
def k2m0 : Method := { name := "<init>", desc := "()V", sig := { parameters := [], returnType := none }, accessFlags := 4, code := some k2c0 }
/-- java/lang/Record -/
def k2 : Class := { plain "java/lang/Record" (some 0) with
  accessFlags := 1057
  interfaces := #[]
  cf := some (fileOf pool2 7 #[] #[{ accessFlags := 4, nameIndex := 5, descriptorIndex := 6, attributes := #[] }] 1057 2 #[] #[])
  fields := #[]
  methods := #[k2m0]
  instanceTypes := #[]
  staticTypes := #[]
  resolved := Array.replicate 22 none
  statics := none }

def pool3 : Array CpInfo := pool [(1, .methodref 2 3), (0, .class_ 4), (0, .nameAndType 5 6), (0, u "java/lang/Record"), (0, u "<init>"), (0, u "()V"), (0, .fieldref 8 9), (0, .class_ 10), (0, .nameAndType 11 12), (0, u "com/example/docketline/docketline/cross/Interest"), (0, u "price"), (0, u "Lcom/example/docketline/docketline/order/Price;"), (0, .fieldref 8 14), (0, .nameAndType 15 16), (0, u "buyShares"), (0, u "J"), (0, .fieldref 8 18), (0, .nameAndType 19 16), (0, u "sellShares"), (1, .class_ 23), (1, u "java/lang/Math"), (2, .methodref 21 27), (0, .nameAndType 28 29), (0, u "abs"), (0, u "(J)J"), (21, u "(Lcom/example/docketline/docketline/order/Price;JJ)V"), (4, u "()J"), (0, u "imbalance")] 29

def k3c0 : Code := { maxStack := 3, maxLocals := 6, code := prog_40_method_1_code, exceptionTable := #[], attributes := #[] }
def k3m0 : Method := { name := "<init>", desc := "(Lcom/example/docketline/docketline/order/Price;JJ)V", sig := { parameters := [(.object "com/example/docketline/docketline/order/Price"), .long, .long], returnType := none }, accessFlags := 1, code := some k3c0 }
def k3c1 : Code := { maxStack := 4, maxLocals := 1, code := prog_40_method_3_code, exceptionTable := #[], attributes := #[] }
def k3m1 : Method := { name := "imbalance", desc := "()J", sig := { parameters := [], returnType := some .long }, accessFlags := 1, code := some k3c1 }
/-- com/example/docketline/docketline/cross/Interest -/
def k3 : Class := { plain "com/example/docketline/docketline/cross/Interest" (some 2) with
  accessFlags := 49
  interfaces := #[]
  cf := some (fileOf pool3 8 #[] #[{ accessFlags := 1, nameIndex := 5, descriptorIndex := 51, attributes := #[] }, { accessFlags := 1, nameIndex := 57, descriptorIndex := 56, attributes := #[] }] 49 2 #[] #[{ accessFlags := 18, nameIndex := 11, descriptorIndex := 12, attributes := #[] }, { accessFlags := 18, nameIndex := 15, descriptorIndex := 16, attributes := #[] }, { accessFlags := 18, nameIndex := 19, descriptorIndex := 16, attributes := #[] }])
  fields := #[{ name := "price", type := (.object "com/example/docketline/docketline/order/Price"), accessFlags := 18, slot := 0, constantValue := 0 }, { name := "buyShares", type := .long, accessFlags := 18, slot := 1, constantValue := 0 }, { name := "sellShares", type := .long, accessFlags := 18, slot := 2, constantValue := 0 }]
  methods := #[k3m0, k3m1]
  instanceTypes := #[(.object "com/example/docketline/docketline/order/Price"), .long, .long]
  staticTypes := #[]
  resolved := Array.replicate 87 none
  statics := none }

def pool4 : Array CpInfo := pool [(1, .class_ 2), (0, u "java/lang/Comparable"), (0, .class_ 4), (0, u "java/lang/Object")] 7

/-- java/lang/Comparable -/
def k4 : Class := { plain "java/lang/Comparable" (some 0) with
  accessFlags := 1537
  interfaces := #[]
  cf := some (fileOf pool4 1 #[] #[] 1537 3 #[] #[])
  fields := #[]
  methods := #[]
  instanceTypes := #[]
  staticTypes := #[]
  resolved := Array.replicate 12 none
  statics := none }

def pool5 : Array CpInfo := pool [(1, .methodref 2 3), (0, .class_ 4), (0, .nameAndType 5 6), (0, u "java/lang/Record"), (0, u "<init>"), (0, u "()V"), (9, .fieldref 17 18), (0, .class_ 19), (0, .nameAndType 20 21), (0, u "com/example/docketline/docketline/order/Price"), (0, u "ticks"), (0, u "J"), (35, u "MAX"), (0, u "Lcom/example/docketline/docketline/order/Price;"), (28, u "(J)V"), (23, u "MIN"), (2, .class_ 115), (0, u "java/lang/Comparable"), (0, u "TICKS_PER_DOLLAR"), (1, u "DECIMALS"), (0, u "I")] 53

def k5c0 : Code := { maxStack := 4, maxLocals := 3, code := prog_77_method_1_code, exceptionTable := #[], attributes := #[] }
def k5m0 : Method := { name := "<init>", desc := "(J)V", sig := { parameters := [.long], returnType := none }, accessFlags := 1, code := some k5c0 }
/-- com/example/docketline/docketline/order/Price -/
def k5 : Class := { plain "com/example/docketline/docketline/order/Price" (some 2) with
  accessFlags := 49
  interfaces := #[4]
  cf := some (fileOf pool5 17 #[] #[{ accessFlags := 1, nameIndex := 5, descriptorIndex := 87, attributes := #[] }] 49 2 #[114] #[{ accessFlags := 18, nameIndex := 20, descriptorIndex := 21, attributes := #[] }, { accessFlags := 25, nameIndex := 116, descriptorIndex := 21, attributes := #[] }, { accessFlags := 25, nameIndex := 111, descriptorIndex := 58, attributes := #[] }, { accessFlags := 25, nameIndex := 57, descriptorIndex := 58, attributes := #[] }, { accessFlags := 26, nameIndex := 118, descriptorIndex := 119, attributes := #[] }])
  fields := #[{ name := "ticks", type := .long, accessFlags := 18, slot := 0, constantValue := 0 }, { name := "TICKS_PER_DOLLAR", type := .long, accessFlags := 25, slot := 0, constantValue := 0 }, { name := "MIN", type := (.object "com/example/docketline/docketline/order/Price"), accessFlags := 25, slot := 1, constantValue := 0 }, { name := "MAX", type := (.object "com/example/docketline/docketline/order/Price"), accessFlags := 25, slot := 2, constantValue := 0 }, { name := "DECIMALS", type := .int, accessFlags := 26, slot := 3, constantValue := 0 }]
  methods := #[k5m0]
  instanceTypes := #[.long]
  staticTypes := #[.long, (.object "com/example/docketline/docketline/order/Price"), (.object "com/example/docketline/docketline/order/Price"), .int]
  resolved := Array.replicate 173 none
  statics := none }

def pool6 : Array CpInfo := pool [(1, .class_ 2), (0, u "java/lang/Math"), (1, .class_ 6), (1, u "java/lang/Object"), (0, u "<init>"), (0, u "()V"), (89, .class_ 100), (1, u "java/lang/Math$RandomNumberGeneratorHolder"), (23, u "abs"), (0, u "(J)J"), (46, u "negativeZeroFloatBits"), (0, u "J"), (2, u "negativeZeroDoubleBits"), (68, u "$assertionsDisabled"), (0, u "Z"), (91, u "twoToTheDoubleScaleDown"), (0, u "D"), (4, u "twoToTheDoubleScaleUp"), (9, u "E"), (3, u "PI"), (2, u "TAU"), (2, u "DEGREES_TO_RADIANS"), (0, u "RADIANS_TO_DEGREES")] 94

def k6m0 : Method := { name := "<init>", desc := "()V", sig := { parameters := [], returnType := none }, accessFlags := 2, code := none }
def k6c1 : Code := { maxStack := 4, maxLocals := 2, code := jdk_29_method_61_code, exceptionTable := #[], attributes := #[] }
def k6m1 : Method := { name := "abs", desc := "(J)J", sig := { parameters := [.long], returnType := some .long }, accessFlags := 9, code := some k6c1 }
/-- java/lang/Math -/
def k6 : Class := { plain "java/lang/Math" (some 0) with
  accessFlags := 49
  interfaces := #[]
  cf := some (fileOf pool6 1 #[.nestMembers #[98]] #[{ accessFlags := 2, nameIndex := 7, descriptorIndex := 8, attributes := #[] }, { accessFlags := 9, nameIndex := 124, descriptorIndex := 125, attributes := #[] }] 49 4 #[] #[{ accessFlags := 25, nameIndex := 354, descriptorIndex := 339, attributes := #[] }, { accessFlags := 25, nameIndex := 358, descriptorIndex := 339, attributes := #[] }, { accessFlags := 25, nameIndex := 361, descriptorIndex := 339, attributes := #[] }, { accessFlags := 26, nameIndex := 364, descriptorIndex := 339, attributes := #[] }, { accessFlags := 26, nameIndex := 365, descriptorIndex := 339, attributes := #[] }, { accessFlags := 26, nameIndex := 172, descriptorIndex := 173, attributes := #[] }, { accessFlags := 26, nameIndex := 176, descriptorIndex := 173, attributes := #[] }, { accessFlags := 8, nameIndex := 344, descriptorIndex := 339, attributes := #[] }, { accessFlags := 8, nameIndex := 338, descriptorIndex := 339, attributes := #[] }, { accessFlags := 4120, nameIndex := 245, descriptorIndex := 246, attributes := #[] }])
  fields := #[{ name := "E", type := .double, accessFlags := 25, slot := 0, constantValue := 0 }, { name := "PI", type := .double, accessFlags := 25, slot := 1, constantValue := 0 }, { name := "TAU", type := .double, accessFlags := 25, slot := 2, constantValue := 0 }, { name := "DEGREES_TO_RADIANS", type := .double, accessFlags := 26, slot := 3, constantValue := 0 }, { name := "RADIANS_TO_DEGREES", type := .double, accessFlags := 26, slot := 4, constantValue := 0 }, { name := "negativeZeroFloatBits", type := .long, accessFlags := 26, slot := 5, constantValue := 0 }, { name := "negativeZeroDoubleBits", type := .long, accessFlags := 26, slot := 6, constantValue := 0 }, { name := "twoToTheDoubleScaleUp", type := .double, accessFlags := 8, slot := 7, constantValue := 0 }, { name := "twoToTheDoubleScaleDown", type := .double, accessFlags := 8, slot := 8, constantValue := 0 }, { name := "$assertionsDisabled", type := .boolean, accessFlags := 4120, slot := 9, constantValue := 0 }]
  methods := #[k6m0, k6m1]
  instanceTypes := #[]
  staticTypes := #[.double, .double, .double, .double, .double, .long, .long, .double, .double, .boolean]
  resolved := Array.replicate 460 none
  statics := none }

def pool7 : Array CpInfo := pool [(1, u "java/lang/Cloneable"), (0, .class_ 1), (0, u "java/lang/Object"), (0, .class_ 3)] 3

/-- java/lang/Cloneable -/
def k7 : Class := { plain "java/lang/Cloneable" (some 0) with
  accessFlags := 1537
  interfaces := #[]
  cf := some (fileOf pool7 2 #[] #[] 1537 4 #[] #[])
  fields := #[]
  methods := #[]
  instanceTypes := #[]
  staticTypes := #[]
  resolved := Array.replicate 8 none
  statics := none }

def pool8 : Array CpInfo := pool [(1, u "java/io/Serializable"), (0, .class_ 1), (0, u "java/lang/Object"), (0, .class_ 3)] 3

/-- java/io/Serializable -/
def k8 : Class := { plain "java/io/Serializable" (some 0) with
  accessFlags := 1537
  interfaces := #[]
  cf := some (fileOf pool8 2 #[] #[] 1537 4 #[] #[])
  fields := #[]
  methods := #[]
  instanceTypes := #[]
  staticTypes := #[]
  resolved := Array.replicate 8 none
  statics := none }

/-- the primitive byte -/
def k9 : Class := { plain "byte" none with kind := .primitive 'B', accessFlags := 0x411 }
/-- [B -/
def k10 : Class := { plain "[B" (some 0) with kind := .array 9 .byte, interfaces := #[7, 8], accessFlags := 1041 }

/-- the primitive int -/
def k11 : Class := { plain "int" none with kind := .primitive 'I', accessFlags := 0x411 }
/-- [I -/
def k12 : Class := { plain "[I" (some 0) with kind := .array 11 .int, interfaces := #[7, 8], accessFlags := 1041 }

def heap : Heap := #[]
def classes : Array Class := #[k0, k1, k2, k3, k4, k5, k6, k7, k8, k9, k10, k11, k12]
def interned : List (Array UInt16 × Addr) := []
def slotsUsed : Nat := 0
def theMethod : MethodId := ⟨1, 1⟩
def args0 : Array Value := #[.long 5, .long 7, .long 3, .int 0]
def aboutOver (below : List Frame) : State where
  vm := { classes := classes, interned := interned.toArray }
  heap := heap
  slotsUsed := slotsUsed
  threads := #[{ frames := .invoking theMethod args0 :: below }]
def below0 : List Frame := [.native { method := ⟨0, 0⟩, args := #[] }]
def about1 : State := aboutOver below0
def p0 : Program := .bare "" "" ""
def e0 : Env := launch0.env 0 0 0
theorem w_frames : about1.frames = Frame.invoking theMethod args0 :: below0 := rfl
set_option maxRecDepth 65536 in
theorem w_args : argsFit about1.vm theMethod args0 = true := by decide +kernel
set_option maxRecDepth 65536 in
theorem w_heap : heapFits about1 = true := by decide +kernel
set_option maxRecDepth 65536 in
theorem w_runnable : about1.curStatus? = some .runnable := by decide +kernel
set_option maxRecDepth 65536 in
theorem w_alone : about1.alone = true := by decide +kernel
set_option maxRecDepth 65536 in
theorem w_named : about1.methodNamed? x = some theMethod := by decide +kernel
set_option maxRecDepth 65536 in
theorem w_hears : about1.hears theMethod below0 = true := by decide +kernel
set_option maxRecDepth 65536 in
theorem w_ripe : about1.ripe theMethod args0 below0 = true := by decide +kernel
theorem w_running : about1.status = .running := rfl
set_option maxRecDepth 65536 in
theorem w_room : about1.hasRoom e0.platform room_1 = true :=
  launch0.hasRoom_least _ room_1 (by decide +kernel) (by decide +kernel) (by decide +kernel) (by decide +kernel) (by decide +kernel) (by decide +kernel)
theorem allAtoms_all (ts : List Jvm.Cond) (a : Array Jvm.Value) (st : Jvm.State) : (allAtoms ts).before a st = ts.all (fun c => c.before a st) := by
  induction ts with
  | nil => rfl
  | cons c t ih =>
    show (Jvm.Cond.and c (allAtoms t)).before a st = _
    rw [Jvm.Cond.before_and, ih, List.all_cons]
def words1 : List Jvm.Cond := Jvm.Cond.code x code maxLocals ret :: tables_1
/-- a 'code' word, met by the world's own term for the bytes: nothing is compared byte by byte -/
theorem code_word {y : MethodName} {bytes : ByteArray} {mx : Nat} {rt : Option FieldType} {a : Array Value} {s : State} {m : MethodId} {meth : Method} {c : Code} (h1 : s.methodNamed? y = some m) (h2 : s.vm.method? m = some meth) (h3 : meth.code = some c) (h4 : c.code = bytes)
    (h5 : (c.maxLocals == mx && c.exceptionTable.isEmpty && decide (c.maxStack ≤ mostOperands) && decide (meth.sig.returnType = rt) && !meth.locks && decide (parseMethodDescriptor y.desc = some meth.sig)) = true) : (Jvm.Cond.code y bytes mx rt).before a s = true := by
  simp only [Bool.and_eq_true, beq_iff_eq, Bool.not_eq_true', decide_eq_true_eq] at h5
  obtain ⟨⟨⟨⟨⟨g1, g2⟩, g3⟩, g4⟩, g5⟩, g6⟩ := h5
  simp [Cond.before, Cond.holds, Cond.value, h1, h2, h3, h4, g1, g2, g3, g4, g5, g6]
def isCode : Jvm.Cond → Bool
  | .code _ _ _ _ => true
  | _ => false
theorem all_split {L : List Jvm.Cond} {P : Jvm.Cond → Bool} (h1 : L.all (fun c => isCode c || P c) = true) (h2 : ∀ c ∈ L.filter isCode, P c = true) : L.all P = true := by
  refine List.all_eq_true.mpr fun c hc => ?_
  have h := List.all_eq_true.mp h1 c hc
  rcases Bool.eq_false_or_eq_true (isCode c) with hi | hi
  · exact h2 c (List.mem_filter.mpr ⟨hc, hi⟩)
  · simpa [hi] using h
set_option maxRecDepth 65536 in
theorem w_c0 : (Jvm.Cond.code x code maxLocals ret).before args0 about1 = true := code_word (m := ⟨1, 1⟩) (meth := k1m1) (c := k1c1) (by decide +kernel) rfl rfl rfl (by decide +kernel)
set_option maxRecDepth 65536 in
theorem w_c1 : (Jvm.Cond.code ({ cls := "com/example/docketline/docketline/order/Price", name := "<init>", desc := "(J)V" } : Jvm.MethodName) prog_77_method_1_code (3 : Nat) (Option.none : Option Jvm.ClassFile.FieldType)).before args0 about1 = true := code_word (m := ⟨5, 0⟩) (meth := k5m0) (c := k5c0) (by decide +kernel) rfl rfl rfl (by decide +kernel)
set_option maxRecDepth 65536 in
theorem w_c2 : (Jvm.Cond.code ({ cls := "java/lang/Record", name := "<init>", desc := "()V" } : Jvm.MethodName) jdk_30_method_1_code (1 : Nat) (Option.none : Option Jvm.ClassFile.FieldType)).before args0 about1 = true := code_word (m := ⟨2, 0⟩) (meth := k2m0) (c := k2c0) (by decide +kernel) rfl rfl rfl (by decide +kernel)
set_option maxRecDepth 65536 in
theorem w_c3 : (Jvm.Cond.code ({ cls := "java/lang/Object", name := "<init>", desc := "()V" } : Jvm.MethodName) object_method_1_code (1 : Nat) (Option.none : Option Jvm.ClassFile.FieldType)).before args0 about1 = true := code_word (m := ⟨0, 0⟩) (meth := k0m0) (c := k0c0) (by decide +kernel) rfl rfl rfl (by decide +kernel)
set_option maxRecDepth 65536 in
theorem w_c4 : (Jvm.Cond.code ({ cls := "com/example/docketline/docketline/cross/Interest", name := "<init>", desc := "(Lcom/example/docketline/docketline/order/Price;JJ)V" } : Jvm.MethodName) prog_40_method_1_code (6 : Nat) (Option.none : Option Jvm.ClassFile.FieldType)).before args0 about1 = true := code_word (m := ⟨3, 0⟩) (meth := k3m0) (c := k3c0) (by decide +kernel) rfl rfl rfl (by decide +kernel)
set_option maxRecDepth 65536 in
theorem w_c5 : (Jvm.Cond.code ({ cls := "com/example/docketline/docketline/cross/Interest", name := "imbalance", desc := "()J" } : Jvm.MethodName) prog_40_method_3_code (1 : Nat) (Option.some Jvm.ClassFile.FieldType.long)).before args0 about1 = true := code_word (m := ⟨3, 1⟩) (meth := k3m1) (c := k3c1) (by decide +kernel) rfl rfl rfl (by decide +kernel)
set_option maxRecDepth 65536 in
theorem w_c6 : (Jvm.Cond.code ({ cls := "java/lang/Math", name := "abs", desc := "(J)J" } : Jvm.MethodName) jdk_29_method_61_code (2 : Nat) (Option.some Jvm.ClassFile.FieldType.long)).before args0 about1 = true := code_word (m := ⟨6, 1⟩) (meth := k6m1) (c := k6c1) (by decide +kernel) rfl rfl rfl (by decide +kernel)
def codes1 : List Jvm.Cond := [Jvm.Cond.code x code maxLocals ret, Jvm.Cond.code ({ cls := "com/example/docketline/docketline/order/Price", name := "<init>", desc := "(J)V" } : Jvm.MethodName) prog_77_method_1_code (3 : Nat) (Option.none : Option Jvm.ClassFile.FieldType), Jvm.Cond.code ({ cls := "java/lang/Record", name := "<init>", desc := "()V" } : Jvm.MethodName) jdk_30_method_1_code (1 : Nat) (Option.none : Option Jvm.ClassFile.FieldType), Jvm.Cond.code ({ cls := "java/lang/Object", name := "<init>", desc := "()V" } : Jvm.MethodName) object_method_1_code (1 : Nat) (Option.none : Option Jvm.ClassFile.FieldType), Jvm.Cond.code ({ cls := "com/example/docketline/docketline/cross/Interest", name := "<init>", desc := "(Lcom/example/docketline/docketline/order/Price;JJ)V" } : Jvm.MethodName) prog_40_method_1_code (6 : Nat) (Option.none : Option Jvm.ClassFile.FieldType), Jvm.Cond.code ({ cls := "com/example/docketline/docketline/cross/Interest", name := "imbalance", desc := "()J" } : Jvm.MethodName) prog_40_method_3_code (1 : Nat) (Option.some Jvm.ClassFile.FieldType.long), Jvm.Cond.code ({ cls := "java/lang/Math", name := "abs", desc := "(J)J" } : Jvm.MethodName) jdk_29_method_61_code (2 : Nat) (Option.some Jvm.ClassFile.FieldType.long)]
set_option maxRecDepth 65536 in
theorem codes_eq : words1.filter isCode = codes1 := rfl
theorem w_codes : ∀ c ∈ words1.filter isCode, c.before args0 about1 = true := by
  rw [codes_eq]
  intro c hc
  simp only [codes1, List.mem_cons, List.not_mem_nil, or_false] at hc
  rcases hc with rfl | rfl | rfl | rfl | rfl | rfl | rfl
  · exact w_c0
  · exact w_c1
  · exact w_c2
  · exact w_c3
  · exact w_c4
  · exact w_c5
  · exact w_c6
set_option maxRecDepth 65536 in
theorem w_t1 : (words1.take 24).all (fun c => isCode c || c.before args0 about1) = true := by decide +kernel
set_option maxRecDepth 65536 in
theorem w_t2 : (words1.drop 24).all (fun c => isCode c || c.before args0 about1) = true := by decide +kernel
theorem w_tables : (allAtoms (Jvm.Cond.code x code maxLocals ret :: tables_1)).before args0 about1 = true := by
  rw [allAtoms_all]
  show words1.all (fun c => c.before args0 about1) = true
  refine all_split ?_ w_codes
  rw [← List.take_append_drop 24 words1, List.all_append, w_t1, w_t2]
  rfl
set_option maxRecDepth 65536 in
theorem w_case : (Jvm.Cond.and given_1 narrow_1).before args0 about1 = true := by decide +kernel
theorem w_applies : (headSpec (Jvm.Cond.code x code maxLocals ret :: tables_1) room_1).applies x e0.platform about1 = true :=
  (Spec.applies_iff w_frames).mpr ⟨w_running, w_runnable, w_alone, w_named, w_hears, w_ripe, w_room, w_tables⟩
theorem atStart : AtStart classFile x code maxLocals ret World_1 tables_1 room_1 Calls_1 rest_1 Pre_1 launch0 p0 e0 about1 theMethod args0 below0 :=
  ⟨lists_1, trivial, launch0.admits_env _ _ _, launch0.least_env, fairChoices_fair.cas, fairChoices_fair.clock, w_frames, w_args, w_heap, w_applies, trivial, trivial, w_case⟩
end start1
theorem witness_1 : WitnessClaimed_1 := ⟨start1.p0, start1.e0, start1.about1, start1.theMethod, start1.args0, start1.below0, start1.atStart⟩
end Jvm.Pilot.@@N@@
