import JvmDerived
import JvmDerived.Pilot.@@N@@Statement
import JvmDerived.Pilot.@@N@@Code
set_option linter.unusedVariables false
set_option linter.unusedSimpArgs false
namespace Jvm.RoadKit
open Sem ClassFile Op Lib Jvm.Stand Jvm.Free Jvm.LawKit
section New
variable {p : Program} {l : Launch} {e : Env} {R : Room} {s : State} {m : MethodId} {args : Array Value} {below : List Frame} {meth : Method} {c : Code} {T : State} {locs : List Loc} {cells slots : Nat}
theorem retI (X : Stand p l e R s m args below meth c T locs cells slots) (hx : p.tables.exec = Jvm.exec) {pc : Nat} {Ls : Array Slot} {z : Int32} {rest : List Value} (hret : meth.sig.returnType = some .int) (hd : decode c.code pc = .ok (.ireturn, 1)) {fs : List Frame}
    (hl : ∀ (f : JFrame) (acts : List Action), f.method = m → f.locked = none → f.entered = [] → (doReturn e (T.setTop f) acts (some (.int z))).1 = T.setFrames fs) : Steps p.tables e below (T.setTop (mkF m pc Ls (.int z :: rest))) (T.setFrames fs) := by
  have hm' : T.vm.method? m = some meth := X.method'
  have hn : narrow .int (.int z) = .int z := rfl
  show Steps p.tables e below (T.setTop { method := m, pc := pc, locals := Ls, stack := _ :: rest, locked := none }) _
  jvm_step X.here [X.here.top, hx, hd, hm', hret, hn]
  first | (intro acts; rw [hl _ acts rfl rfl rfl]) | rw [hl _ _ rfl rfl rfl]
  exact Steps.refl _
end New
end Jvm.RoadKit
namespace Jvm.Pilot.@@N@@
open Jvm Jvm.ClassFile Sem Op Lib Jvm.Free Jvm.Stand Jvm.LawKit Jvm.RoadKit Bundle Jvm.Pilot.@@N@@.Jvm.D
theorem ow {Z : State} {a0 : Array Value} (hw : ∀ d ∈ tables_1, d.before a0 Z = true) (i : Nat) {d : Jvm.Cond} (h : tables_1[i]? = some d) : d.before a0 Z = true := hw _ (List.mem_of_getElem? h)
def own_b (P : Prop) [Decidable P] : Int32 := if P then 1 else 0
theorem own_b_t {P : Prop} [Decidable P] (h : P) : own_b P = 1 := if_pos h
theorem own_b_f {P : Prop} [Decidable P] (h : ¬ P) : own_b P = 0 := if_neg h
theorem own_b_nz {P : Prop} [Decidable P] (h : P) : ¬ (own_b P = (0 : Int32)) := by rw [own_b_t h]; decide
theorem own_b_nar (P : Prop) [Decidable P] : nar .boolean (own_b P) = own_b P := by
  by_cases h : P
  · rw [own_b_t h]; rfl
  · rw [own_b_f h]; rfl
theorem own_sel {Z s : State} {a0 args : Array Value} {y : MethodName} {n : Nat} (hZ : Z.Warmed39 s.vm) (wi : (Jvm.Cond.instantiable y.cls n).before a0 Z = true) (wp : (Jvm.Cond.privateMethod y).before a0 Z = true) (wm : (Jvm.Cond.instanceMethod y).before a0 Z = true) (hy : y.cls ≠ "java/lang/invoke/MethodHandle" ∧ y.cls ≠ "java/lang/invoke/VarHandle") : (Jvm.Cond.selects y.cls y y).before args s = true := by
  have wi' : (Jvm.Cond.instantiable y.cls n).before args s = true := mvT hZ wi
  obtain ⟨c, k, h1, h2, h3, h4, -⟩ := Cond.instantiable_spec wi'
  have h5 : k.isInterface = false := by
    cases hq : k.isInterface with
    | false => rfl
    | true => rw [hq] at h4; simp at h4
  exact Jvm.Stand.selects_self_of_private h1 h2 h5 (Cond.privateMethod_at (mvP hZ wp (args := args))) (mvT hZ wm) hy
theorem own_nf {s : State} {args : Array Value} {C : String} {y y' : MethodName} (w : (Jvm.Cond.selects C y' y').before args s = true) (e : y'.cls = y.cls) : NotFace s y := fun r0 h0 => by
  obtain ⟨c2, r2, m2, q1, q2, q3, q4, kP, hkP, hkPi⟩ := Cond.selects_spec w
  have h1 := findClass_of_methodNamed h0
  have h2 := findClass_of_methodNamed q3
  rw [e] at h2
  have h3 := Option.some.inj (h1.symm.trans h2)
  exact ⟨kP, by rw [h3]; exact hkP, hkPi⟩
theorem own_selN {Z s : State} {a0 args : Array Value} {y : MethodName} (hZ : Z.Warmed39 s.vm) (nf : NotFace s y) (wp : (Jvm.Cond.privateMethod y).before a0 Z = true) (wm : (Jvm.Cond.instanceMethod y).before a0 Z = true) (hy : y.cls ≠ "java/lang/invoke/MethodHandle" ∧ y.cls ≠ "java/lang/invoke/VarHandle") : (Jvm.Cond.selects y.cls y y).before args s = true := by
  have wm' : (Jvm.Cond.instanceMethod y).before args s = true := mvT hZ wm
  obtain ⟨mk, methM, hnamed, -⟩ := Cond.instanceMethod_spec wm'
  obtain ⟨k, hk, hki⟩ := nf mk hnamed
  exact Jvm.Stand.selects_self_of_private (findClass_of_methodNamed hnamed) hk hki (Cond.privateMethod_at (mvP hZ wp (args := args))) wm' hy
theorem own_b01 (P : Prop) [Decidable P] : own_b P = (0 : Int32) ∨ own_b P = (1 : Int32) := by
  by_cases h : P
  · exact Or.inr (own_b_t h)
  · exact Or.inl (own_b_f h)
theorem own_b_iff {P : Prop} [Decidable P] : own_b P = (0 : Int32) ↔ ¬ P := ⟨fun q h => own_b_nz h q, own_b_f⟩
theorem own_eqI {args : Array Value} {first s : State} {o : Option Outcome} {idx : List Nat} {a : Term} {n : Int32} (h : (Jvm.Cond.eq a (Term.int n)).value args first o s idx = some true) : a.eval args first o idx s = some (.int n) := by
  obtain ⟨x, y, ha, hb, k1, k2⟩ := cmp_v (Or.inl h)
  obtain rfl : y = .int n := (Option.some.inj ((Term.int_eval n).symm.trans hb)).symm
  obtain ⟨z, rfl⟩ := k2
  have q := gotT (Cond.eq_ints ha (Term.int_eval n)) h
  rw [ha, q]
theorem own_ne {s : State} {a b : Addr} {C n d : String} {x y : Int32} (h1 : s.fieldOf? a C n d = some (.int x)) (h2 : s.fieldOf? b C n d = some (.int y)) (h : x ≠ y) : a ≠ b := fun q => by
  subst q
  exact h (Value.int.inj (Option.some.inj (h1.symm.trans h2)))
theorem own_23 {x kk : Int32} (h : kk = ((x &&& (2147483647 : Int32)) % (23 : Int32))) : kk = (0 : Int32) ∨ kk = (1 : Int32) ∨ kk = (2 : Int32) ∨ kk = (3 : Int32) ∨ kk = (4 : Int32) ∨ kk = (5 : Int32) ∨ kk = (6 : Int32) ∨ kk = (7 : Int32) ∨ kk = (8 : Int32) ∨ kk = (9 : Int32) ∨ kk = (10 : Int32) ∨ kk = (11 : Int32) ∨ kk = (12 : Int32) ∨ kk = (13 : Int32) ∨ kk = (14 : Int32) ∨ kk = (15 : Int32) ∨ kk = (16 : Int32) ∨ kk = (17 : Int32) ∨ kk = (18 : Int32) ∨ kk = (19 : Int32) ∨ kk = (20 : Int32) ∨ kk = (21 : Int32) ∨ kk = (22 : Int32) := by
  have h1 := c_mask x 2147483647 31 (by decide) (by decide)
  have h2 := (c_irem (x &&& 2147483647) 23 23 (by decide)).1 (by rw [h1]; omega)
  rw [← h] at h2
  have hlt : kk.toInt < 23 ∧ 0 ≤ kk.toInt := by omega
  obtain ⟨n, hn⟩ := Int.eq_ofNat_of_zero_le hlt.2
  have hn23 : n < 23 := by omega
  have key : ∀ n : Nat, n < 23 → (n = 0 ∨ n = 1 ∨ n = 2 ∨ n = 3 ∨ n = 4 ∨ n = 5 ∨ n = 6 ∨ n = 7 ∨ n = 8 ∨ n = 9 ∨ n = 10 ∨ n = 11 ∨ n = 12 ∨ n = 13 ∨ n = 14 ∨ n = 15 ∨ n = 16 ∨ n = 17 ∨ n = 18 ∨ n = 19 ∨ n = 20 ∨ n = 21 ∨ n = 22) := by decide
  have e : ∀ (j : Int32), kk.toInt = j.toInt → kk = j := fun j q => Int32.toInt_inj.mp q
  rcases key n hn23 with rfl | rfl | rfl | rfl | rfl | rfl | rfl | rfl | rfl | rfl | rfl | rfl | rfl | rfl | rfl | rfl | rfl | rfl | rfl | rfl | rfl | rfl | rfl
  · exact Or.inl (e 0 (hn.trans (by decide)))
  · exact Or.inr (Or.inl (e 1 (hn.trans (by decide))))
  · exact Or.inr (Or.inr (Or.inl (e 2 (hn.trans (by decide)))))
  · exact Or.inr (Or.inr (Or.inr (Or.inl (e 3 (hn.trans (by decide))))))
  · exact Or.inr (Or.inr (Or.inr (Or.inr (Or.inl (e 4 (hn.trans (by decide)))))))
  · exact Or.inr (Or.inr (Or.inr (Or.inr (Or.inr (Or.inl (e 5 (hn.trans (by decide))))))))
  · exact Or.inr (Or.inr (Or.inr (Or.inr (Or.inr (Or.inr (Or.inl (e 6 (hn.trans (by decide)))))))))
  · exact Or.inr (Or.inr (Or.inr (Or.inr (Or.inr (Or.inr (Or.inr (Or.inl (e 7 (hn.trans (by decide))))))))))
  · exact Or.inr (Or.inr (Or.inr (Or.inr (Or.inr (Or.inr (Or.inr (Or.inr (Or.inl (e 8 (hn.trans (by decide)))))))))))
  · exact Or.inr (Or.inr (Or.inr (Or.inr (Or.inr (Or.inr (Or.inr (Or.inr (Or.inr (Or.inl (e 9 (hn.trans (by decide))))))))))))
  · exact Or.inr (Or.inr (Or.inr (Or.inr (Or.inr (Or.inr (Or.inr (Or.inr (Or.inr (Or.inr (Or.inl (e 10 (hn.trans (by decide)))))))))))))
  · exact Or.inr (Or.inr (Or.inr (Or.inr (Or.inr (Or.inr (Or.inr (Or.inr (Or.inr (Or.inr (Or.inr (Or.inl (e 11 (hn.trans (by decide))))))))))))))
  · exact Or.inr (Or.inr (Or.inr (Or.inr (Or.inr (Or.inr (Or.inr (Or.inr (Or.inr (Or.inr (Or.inr (Or.inr (Or.inl (e 12 (hn.trans (by decide)))))))))))))))
  · exact Or.inr (Or.inr (Or.inr (Or.inr (Or.inr (Or.inr (Or.inr (Or.inr (Or.inr (Or.inr (Or.inr (Or.inr (Or.inr (Or.inl (e 13 (hn.trans (by decide))))))))))))))))
  · exact Or.inr (Or.inr (Or.inr (Or.inr (Or.inr (Or.inr (Or.inr (Or.inr (Or.inr (Or.inr (Or.inr (Or.inr (Or.inr (Or.inr (Or.inl (e 14 (hn.trans (by decide)))))))))))))))))
  · exact Or.inr (Or.inr (Or.inr (Or.inr (Or.inr (Or.inr (Or.inr (Or.inr (Or.inr (Or.inr (Or.inr (Or.inr (Or.inr (Or.inr (Or.inr (Or.inl (e 15 (hn.trans (by decide))))))))))))))))))
  · exact Or.inr (Or.inr (Or.inr (Or.inr (Or.inr (Or.inr (Or.inr (Or.inr (Or.inr (Or.inr (Or.inr (Or.inr (Or.inr (Or.inr (Or.inr (Or.inr (Or.inl (e 16 (hn.trans (by decide)))))))))))))))))))
  · exact Or.inr (Or.inr (Or.inr (Or.inr (Or.inr (Or.inr (Or.inr (Or.inr (Or.inr (Or.inr (Or.inr (Or.inr (Or.inr (Or.inr (Or.inr (Or.inr (Or.inr (Or.inl (e 17 (hn.trans (by decide))))))))))))))))))))
  · exact Or.inr (Or.inr (Or.inr (Or.inr (Or.inr (Or.inr (Or.inr (Or.inr (Or.inr (Or.inr (Or.inr (Or.inr (Or.inr (Or.inr (Or.inr (Or.inr (Or.inr (Or.inr (Or.inl (e 18 (hn.trans (by decide)))))))))))))))))))))
  · exact Or.inr (Or.inr (Or.inr (Or.inr (Or.inr (Or.inr (Or.inr (Or.inr (Or.inr (Or.inr (Or.inr (Or.inr (Or.inr (Or.inr (Or.inr (Or.inr (Or.inr (Or.inr (Or.inr (Or.inl (e 19 (hn.trans (by decide))))))))))))))))))))))
  · exact Or.inr (Or.inr (Or.inr (Or.inr (Or.inr (Or.inr (Or.inr (Or.inr (Or.inr (Or.inr (Or.inr (Or.inr (Or.inr (Or.inr (Or.inr (Or.inr (Or.inr (Or.inr (Or.inr (Or.inr (Or.inl (e 20 (hn.trans (by decide)))))))))))))))))))))))
  · exact Or.inr (Or.inr (Or.inr (Or.inr (Or.inr (Or.inr (Or.inr (Or.inr (Or.inr (Or.inr (Or.inr (Or.inr (Or.inr (Or.inr (Or.inr (Or.inr (Or.inr (Or.inr (Or.inr (Or.inr (Or.inr (Or.inl (e 21 (hn.trans (by decide))))))))))))))))))))))))
  · exact Or.inr (Or.inr (Or.inr (Or.inr (Or.inr (Or.inr (Or.inr (Or.inr (Or.inr (Or.inr (Or.inr (Or.inr (Or.inr (Or.inr (Or.inr (Or.inr (Or.inr (Or.inr (Or.inr (Or.inr (Or.inr (Or.inr ((e 22 (hn.trans (by decide)))))))))))))))))))))))))
theorem pn0 : plainName "com/example/hewgen/hewgen/model/ShapeType" = true := by first | (simp [plainName, overriddenIn]; done) | decide +kernel
theorem d1_0 : decode prog_37_method_6_code 0 = .ok (.aload_n 0, 1) := by decide +kernel
theorem d1_1 : decode prog_37_method_6_code 1 = .ok (.getstatic 55, 3) := by decide +kernel
theorem d1_4 : decode prog_37_method_6_code 4 = .ok (.if_acmp .eq 24, 3) := by decide +kernel
theorem d1_28 : decode prog_37_method_6_code 28 = .ok (.iconst 1, 1) := by decide +kernel
theorem d1_29 : decode prog_37_method_6_code 29 = .ok (.goto 4, 3) := by decide +kernel
theorem d1_33 : decode prog_37_method_6_code 33 = .ok (.ireturn, 1) := by decide +kernel
theorem ef1st (m : MethodId) (st : Addr) : entryFrame m #[(.ref st)] 1 = mkF m 0 #[.val (.ref st)] [] := by first | (simp [entryFrame, mkF, argsToLocals, Value.category]; done) | rfl
def Q1st (Z : State) (st : Addr) (h0 : Heap) (n0 : Nat) (v : Option Value) (h : Heap) (L : List Loc) : Prop := v = some (.int (1 : Int32)) ∧ Fr n0 L ∧ h = h0
set_option maxRecDepth 65536 in
set_option maxHeartbeats 40000000 in
theorem rm1st (l : Launch) (Z : State) (a0 : Array Value) (hw : ∀ d ∈ tables_1, d.before a0 Z = true) (ws : List Jvm.Cond) (st : Addr) (h0 : Heap) (n0 : Nat) (Z0 : n0 ≤ h0.size) (S_st : Sta Z h0 "com/example/hewgen/hewgen/model/ShapeType" "STRUCTURE" "Lcom/example/hewgen/hewgen/model/ShapeType;" (.ref st)) :
    MetFree l (⟨"com/example/hewgen/hewgen/model/ShapeType", "hasNamedMembers", "()Z"⟩ : MethodName) (head1 (Jvm.Cond.code (⟨"com/example/hewgen/hewgen/model/ShapeType", "hasNamedMembers", "()Z"⟩ : MethodName) prog_37_method_6_code 1 (some .boolean) :: ws) ({ frames := 0, cells := 0, slots := 0, locals := 0 } : Room)) (fun a U => a = #[(.ref st)] ∧ Z.Warmed39 U.vm ∧ U.heap = h0) (fun _ _ _ _ _ => True) (fun _ U o U' => ∃ v L, o = .returned v ∧ Q1st Z st h0 n0 v U'.heap L ∧ FrameEnd U o U' L ({ frames := 0, cells := 0, slots := 0, locals := 0 } : Room).cells ({ frames := 0, cells := 0, slots := 0, locals := 0 } : Room).slots) := by
  refine MetFree.of_bodySF (plainFor_of_name pn0) hisR ?_
  intro p e s m args below meth c s₁ Bd hml0 hP hK
  obtain ⟨rfl, hZ, hh⟩ := hP
  have hx := Bd.exec
  have hby := Bd.bytes
  have hml : c.maxLocals = 1 := hml0
  have hown : s.vm.findClass "com/example/hewgen/hewgen/model/ShapeType" = some m.cls := findClass_of_methodNamed Bd.named
  have hnm := (name_of_methodNamed Bd.named Bd.method).1
  have X0 : Stand p l e ({ frames := 0, cells := 0, slots := 0, locals := 0 } : Room) s m #[(.ref st)] below meth c s₁ [] 0 0 := Stand.of_body Bd
  have e0 : s₁.heap = h0 := by rw [← hh, Bd.state]; rfl
  have N0 := Fr.nil n0
  have pre0 : ∀ tZ, Steps p.tables e below (s₁.setTop (mkF m 0 #[.val (.ref st)] [])) tZ → Steps p.tables e below (s₁.setTop (entryFrame m #[(.ref st)] 1)) tZ := fun tZ kZ => castTop (ef1st m st) kZ
  obtain ⟨T1, X1, e1, st1⟩ := getS2 X0 hx hZ hown (host := "") (Or.inl (ow hw 56 rfl)) Via.refl e0 S_st (g := (mkF m 1 #[.val (.ref st)] [(.ref st)])) rfl (hb hby d1_1)
  obtain ⟨fsZ, hrZ, hrun, hended, hW, hsame⟩ := X1.leave (v := some (.int (1 : Int32))) (fun h => by rw [Bd.returns] at h; cases h)
  refine ⟨_, _, pre0 _ ?_, hrun, hended, _, _, rfl, ?_, ⟨_, rfl⟩, hW, hsame.mono (by decide) (by decide)⟩
  · show Steps p.tables e below (s₁.setTop (mkF m 0 #[.val (.ref st)] [])) _
    refine XS.aloadN X0.here hx rfl (hb hby d1_0) rfl rfl ?_
    show Steps p.tables e below (s₁.setTop (mkF m 1 #[.val (.ref st)] [(.ref st)])) _
    refine st1 _ ?_
    show Steps p.tables e below (T1.setTop (mkF m 4 #[.val (.ref st)] [(.ref st), (.ref st)])) _
    refine Jvm.RoadKit.acmp (g := (mkF m 4 #[.val (.ref st)] [(.ref st), (.ref st)])) X1 hx rfl rfl rfl (pc0 := 4) (pc' := 28) (same := true) rfl (hb hby d1_4) rfl (decide_eq_true rfl) (by decide) (by decide) ?_
    show Steps p.tables e below (T1.setTop (mkF m 28 #[.val (.ref st)] [])) _
    refine XS.iconst X1.here hx rfl (hb hby d1_28) ?_
    show Steps p.tables e below (T1.setTop (mkF m 29 #[.val (.ref st)] [(.int (1 : Int32))])) _
    refine XS.goto X1.here hx rfl (pc0 := 29) (pc' := 33) rfl (hb hby d1_29) (by decide) (by decide) ?_
    show Steps p.tables e below (T1.setTop (mkF m 33 #[.val (.ref st)] [(.int (1 : Int32))])) _
    exact retN X1 hx (t := .boolean) Bd.returns (by simp) (hb hby d1_33) hrZ
  · show Q1st Z st h0 n0 _ T1.heap _
    rw [e1]
    exact ⟨rfl, N0, rfl⟩
theorem d1_7 : decode prog_37_method_6_code 7 = .ok (.aload_n 0, 1) := by decide +kernel
theorem d1_8 : decode prog_37_method_6_code 8 = .ok (.getstatic 58, 3) := by decide +kernel
theorem d1_11 : decode prog_37_method_6_code 11 = .ok (.if_acmp .eq 17, 3) := by decide +kernel
theorem ef1un (m : MethodId) (un : Addr) : entryFrame m #[(.ref un)] 1 = mkF m 0 #[.val (.ref un)] [] := by first | (simp [entryFrame, mkF, argsToLocals, Value.category]; done) | rfl
def Q1un (Z : State) (un : Addr) (st : Addr) (h0 : Heap) (n0 : Nat) (v : Option Value) (h : Heap) (L : List Loc) : Prop := v = some (.int (1 : Int32)) ∧ Fr n0 L ∧ h = h0
set_option maxRecDepth 65536 in
set_option maxHeartbeats 40000000 in
theorem rm1un (l : Launch) (Z : State) (a0 : Array Value) (hw : ∀ d ∈ tables_1, d.before a0 Z = true) (ws : List Jvm.Cond) (un : Addr) (st : Addr) (h0 : Heap) (n0 : Nat) (Z0 : n0 ≤ h0.size) (S_st : Sta Z h0 "com/example/hewgen/hewgen/model/ShapeType" "STRUCTURE" "Lcom/example/hewgen/hewgen/model/ShapeType;" (.ref st)) (S_un : Sta Z h0 "com/example/hewgen/hewgen/model/ShapeType" "UNION" "Lcom/example/hewgen/hewgen/model/ShapeType;" (.ref un)) (n_st : un ≠ st) :
    MetFree l (⟨"com/example/hewgen/hewgen/model/ShapeType", "hasNamedMembers", "()Z"⟩ : MethodName) (head1 (Jvm.Cond.code (⟨"com/example/hewgen/hewgen/model/ShapeType", "hasNamedMembers", "()Z"⟩ : MethodName) prog_37_method_6_code 1 (some .boolean) :: ws) ({ frames := 0, cells := 0, slots := 0, locals := 0 } : Room)) (fun a U => a = #[(.ref un)] ∧ Z.Warmed39 U.vm ∧ U.heap = h0) (fun _ _ _ _ _ => True) (fun _ U o U' => ∃ v L, o = .returned v ∧ Q1un Z un st h0 n0 v U'.heap L ∧ FrameEnd U o U' L ({ frames := 0, cells := 0, slots := 0, locals := 0 } : Room).cells ({ frames := 0, cells := 0, slots := 0, locals := 0 } : Room).slots) := by
  refine MetFree.of_bodySF (plainFor_of_name pn0) hisR ?_
  intro p e s m args below meth c s₁ Bd hml0 hP hK
  obtain ⟨rfl, hZ, hh⟩ := hP
  have hx := Bd.exec
  have hby := Bd.bytes
  have hml : c.maxLocals = 1 := hml0
  have hown : s.vm.findClass "com/example/hewgen/hewgen/model/ShapeType" = some m.cls := findClass_of_methodNamed Bd.named
  have hnm := (name_of_methodNamed Bd.named Bd.method).1
  have X0 : Stand p l e ({ frames := 0, cells := 0, slots := 0, locals := 0 } : Room) s m #[(.ref un)] below meth c s₁ [] 0 0 := Stand.of_body Bd
  have e0 : s₁.heap = h0 := by rw [← hh, Bd.state]; rfl
  have N0 := Fr.nil n0
  have pre0 : ∀ tZ, Steps p.tables e below (s₁.setTop (mkF m 0 #[.val (.ref un)] [])) tZ → Steps p.tables e below (s₁.setTop (entryFrame m #[(.ref un)] 1)) tZ := fun tZ kZ => castTop (ef1un m un) kZ
  obtain ⟨T1, X1, e1, st1⟩ := getS2 X0 hx hZ hown (host := "") (Or.inl (ow hw 56 rfl)) Via.refl e0 S_st (g := (mkF m 1 #[.val (.ref un)] [(.ref un)])) rfl (hb hby d1_1)
  obtain ⟨T2, X2, e2, st2⟩ := getS2 X1 hx hZ hown (host := "") (Or.inl (ow hw 57 rfl)) Via.refl e1 S_un (g := (mkF m 8 #[.val (.ref un)] [(.ref un)])) rfl (hb hby d1_8)
  obtain ⟨fsZ, hrZ, hrun, hended, hW, hsame⟩ := X2.leave (v := some (.int (1 : Int32))) (fun h => by rw [Bd.returns] at h; cases h)
  refine ⟨_, _, pre0 _ ?_, hrun, hended, _, _, rfl, ?_, ⟨_, rfl⟩, hW, hsame.mono (by decide) (by decide)⟩
  · show Steps p.tables e below (s₁.setTop (mkF m 0 #[.val (.ref un)] [])) _
    refine XS.aloadN X0.here hx rfl (hb hby d1_0) rfl rfl ?_
    show Steps p.tables e below (s₁.setTop (mkF m 1 #[.val (.ref un)] [(.ref un)])) _
    refine st1 _ ?_
    show Steps p.tables e below (T1.setTop (mkF m 4 #[.val (.ref un)] [(.ref st), (.ref un)])) _
    refine Jvm.RoadKit.acmp (g := (mkF m 4 #[.val (.ref un)] [(.ref st), (.ref un)])) X1 hx rfl rfl rfl (pc0 := 4) (pc' := 7) (same := false) rfl (hb hby d1_4) rfl (decide_eq_false fun q => n_st (Value.ref.inj q)) (by decide) (by decide) ?_
    show Steps p.tables e below (T1.setTop (mkF m 7 #[.val (.ref un)] [])) _
    refine XS.aloadN X1.here hx rfl (hb hby d1_7) rfl rfl ?_
    show Steps p.tables e below (T1.setTop (mkF m 8 #[.val (.ref un)] [(.ref un)])) _
    refine st2 _ ?_
    show Steps p.tables e below (T2.setTop (mkF m 11 #[.val (.ref un)] [(.ref un), (.ref un)])) _
    refine Jvm.RoadKit.acmp (g := (mkF m 11 #[.val (.ref un)] [(.ref un), (.ref un)])) X2 hx rfl rfl rfl (pc0 := 11) (pc' := 28) (same := true) rfl (hb hby d1_11) rfl (decide_eq_true rfl) (by decide) (by decide) ?_
    show Steps p.tables e below (T2.setTop (mkF m 28 #[.val (.ref un)] [])) _
    refine XS.iconst X2.here hx rfl (hb hby d1_28) ?_
    show Steps p.tables e below (T2.setTop (mkF m 29 #[.val (.ref un)] [(.int (1 : Int32))])) _
    refine XS.goto X2.here hx rfl (pc0 := 29) (pc' := 33) rfl (hb hby d1_29) (by decide) (by decide) ?_
    show Steps p.tables e below (T2.setTop (mkF m 33 #[.val (.ref un)] [(.int (1 : Int32))])) _
    exact retN X2 hx (t := .boolean) Bd.returns (by simp) (hb hby d1_33) hrZ
  · show Q1un Z un st h0 n0 _ T2.heap _
    rw [e2]
    exact ⟨rfl, N0, rfl⟩
theorem d1_14 : decode prog_37_method_6_code 14 = .ok (.aload_n 0, 1) := by decide +kernel
theorem d1_15 : decode prog_37_method_6_code 15 = .ok (.getstatic 43, 3) := by decide +kernel
theorem d1_18 : decode prog_37_method_6_code 18 = .ok (.if_acmp .eq 10, 3) := by decide +kernel
theorem ef1en (m : MethodId) (en : Addr) : entryFrame m #[(.ref en)] 1 = mkF m 0 #[.val (.ref en)] [] := by first | (simp [entryFrame, mkF, argsToLocals, Value.category]; done) | rfl
def Q1en (Z : State) (en : Addr) (st : Addr) (un : Addr) (h0 : Heap) (n0 : Nat) (v : Option Value) (h : Heap) (L : List Loc) : Prop := v = some (.int (1 : Int32)) ∧ Fr n0 L ∧ h = h0
set_option maxRecDepth 65536 in
set_option maxHeartbeats 40000000 in
theorem rm1en (l : Launch) (Z : State) (a0 : Array Value) (hw : ∀ d ∈ tables_1, d.before a0 Z = true) (ws : List Jvm.Cond) (en : Addr) (st : Addr) (un : Addr) (h0 : Heap) (n0 : Nat) (Z0 : n0 ≤ h0.size) (S_st : Sta Z h0 "com/example/hewgen/hewgen/model/ShapeType" "STRUCTURE" "Lcom/example/hewgen/hewgen/model/ShapeType;" (.ref st)) (S_un : Sta Z h0 "com/example/hewgen/hewgen/model/ShapeType" "UNION" "Lcom/example/hewgen/hewgen/model/ShapeType;" (.ref un)) (S_en : Sta Z h0 "com/example/hewgen/hewgen/model/ShapeType" "ENUM" "Lcom/example/hewgen/hewgen/model/ShapeType;" (.ref en)) (n_st : en ≠ st) (n_un : en ≠ un) :
    MetFree l (⟨"com/example/hewgen/hewgen/model/ShapeType", "hasNamedMembers", "()Z"⟩ : MethodName) (head1 (Jvm.Cond.code (⟨"com/example/hewgen/hewgen/model/ShapeType", "hasNamedMembers", "()Z"⟩ : MethodName) prog_37_method_6_code 1 (some .boolean) :: ws) ({ frames := 0, cells := 0, slots := 0, locals := 0 } : Room)) (fun a U => a = #[(.ref en)] ∧ Z.Warmed39 U.vm ∧ U.heap = h0) (fun _ _ _ _ _ => True) (fun _ U o U' => ∃ v L, o = .returned v ∧ Q1en Z en st un h0 n0 v U'.heap L ∧ FrameEnd U o U' L ({ frames := 0, cells := 0, slots := 0, locals := 0 } : Room).cells ({ frames := 0, cells := 0, slots := 0, locals := 0 } : Room).slots) := by
  refine MetFree.of_bodySF (plainFor_of_name pn0) hisR ?_
  intro p e s m args below meth c s₁ Bd hml0 hP hK
  obtain ⟨rfl, hZ, hh⟩ := hP
  have hx := Bd.exec
  have hby := Bd.bytes
  have hml : c.maxLocals = 1 := hml0
  have hown : s.vm.findClass "com/example/hewgen/hewgen/model/ShapeType" = some m.cls := findClass_of_methodNamed Bd.named
  have hnm := (name_of_methodNamed Bd.named Bd.method).1
  have X0 : Stand p l e ({ frames := 0, cells := 0, slots := 0, locals := 0 } : Room) s m #[(.ref en)] below meth c s₁ [] 0 0 := Stand.of_body Bd
  have e0 : s₁.heap = h0 := by rw [← hh, Bd.state]; rfl
  have N0 := Fr.nil n0
  have pre0 : ∀ tZ, Steps p.tables e below (s₁.setTop (mkF m 0 #[.val (.ref en)] [])) tZ → Steps p.tables e below (s₁.setTop (entryFrame m #[(.ref en)] 1)) tZ := fun tZ kZ => castTop (ef1en m en) kZ
  obtain ⟨T1, X1, e1, st1⟩ := getS2 X0 hx hZ hown (host := "") (Or.inl (ow hw 56 rfl)) Via.refl e0 S_st (g := (mkF m 1 #[.val (.ref en)] [(.ref en)])) rfl (hb hby d1_1)
  obtain ⟨T2, X2, e2, st2⟩ := getS2 X1 hx hZ hown (host := "") (Or.inl (ow hw 57 rfl)) Via.refl e1 S_un (g := (mkF m 8 #[.val (.ref en)] [(.ref en)])) rfl (hb hby d1_8)
  obtain ⟨T3, X3, e3, st3⟩ := getS2 X2 hx hZ hown (host := "") (Or.inl (ow hw 58 rfl)) Via.refl e2 S_en (g := (mkF m 15 #[.val (.ref en)] [(.ref en)])) rfl (hb hby d1_15)
  obtain ⟨fsZ, hrZ, hrun, hended, hW, hsame⟩ := X3.leave (v := some (.int (1 : Int32))) (fun h => by rw [Bd.returns] at h; cases h)
  refine ⟨_, _, pre0 _ ?_, hrun, hended, _, _, rfl, ?_, ⟨_, rfl⟩, hW, hsame.mono (by decide) (by decide)⟩
  · show Steps p.tables e below (s₁.setTop (mkF m 0 #[.val (.ref en)] [])) _
    refine XS.aloadN X0.here hx rfl (hb hby d1_0) rfl rfl ?_
    show Steps p.tables e below (s₁.setTop (mkF m 1 #[.val (.ref en)] [(.ref en)])) _
    refine st1 _ ?_
    show Steps p.tables e below (T1.setTop (mkF m 4 #[.val (.ref en)] [(.ref st), (.ref en)])) _
    refine Jvm.RoadKit.acmp (g := (mkF m 4 #[.val (.ref en)] [(.ref st), (.ref en)])) X1 hx rfl rfl rfl (pc0 := 4) (pc' := 7) (same := false) rfl (hb hby d1_4) rfl (decide_eq_false fun q => n_st (Value.ref.inj q)) (by decide) (by decide) ?_
    show Steps p.tables e below (T1.setTop (mkF m 7 #[.val (.ref en)] [])) _
    refine XS.aloadN X1.here hx rfl (hb hby d1_7) rfl rfl ?_
    show Steps p.tables e below (T1.setTop (mkF m 8 #[.val (.ref en)] [(.ref en)])) _
    refine st2 _ ?_
    show Steps p.tables e below (T2.setTop (mkF m 11 #[.val (.ref en)] [(.ref un), (.ref en)])) _
    refine Jvm.RoadKit.acmp (g := (mkF m 11 #[.val (.ref en)] [(.ref un), (.ref en)])) X2 hx rfl rfl rfl (pc0 := 11) (pc' := 14) (same := false) rfl (hb hby d1_11) rfl (decide_eq_false fun q => n_un (Value.ref.inj q)) (by decide) (by decide) ?_
    show Steps p.tables e below (T2.setTop (mkF m 14 #[.val (.ref en)] [])) _
    refine XS.aloadN X2.here hx rfl (hb hby d1_14) rfl rfl ?_
    show Steps p.tables e below (T2.setTop (mkF m 15 #[.val (.ref en)] [(.ref en)])) _
    refine st3 _ ?_
    show Steps p.tables e below (T3.setTop (mkF m 18 #[.val (.ref en)] [(.ref en), (.ref en)])) _
    refine Jvm.RoadKit.acmp (g := (mkF m 18 #[.val (.ref en)] [(.ref en), (.ref en)])) X3 hx rfl rfl rfl (pc0 := 18) (pc' := 28) (same := true) rfl (hb hby d1_18) rfl (decide_eq_true rfl) (by decide) (by decide) ?_
    show Steps p.tables e below (T3.setTop (mkF m 28 #[.val (.ref en)] [])) _
    refine XS.iconst X3.here hx rfl (hb hby d1_28) ?_
    show Steps p.tables e below (T3.setTop (mkF m 29 #[.val (.ref en)] [(.int (1 : Int32))])) _
    refine XS.goto X3.here hx rfl (pc0 := 29) (pc' := 33) rfl (hb hby d1_29) (by decide) (by decide) ?_
    show Steps p.tables e below (T3.setTop (mkF m 33 #[.val (.ref en)] [(.int (1 : Int32))])) _
    exact retN X3 hx (t := .boolean) Bd.returns (by simp) (hb hby d1_33) hrZ
  · show Q1en Z en st un h0 n0 _ T3.heap _
    rw [e3]
    exact ⟨rfl, N0, rfl⟩
theorem d1_21 : decode prog_37_method_6_code 21 = .ok (.aload_n 0, 1) := by decide +kernel
theorem d1_22 : decode prog_37_method_6_code 22 = .ok (.getstatic 46, 3) := by decide +kernel
theorem d1_25 : decode prog_37_method_6_code 25 = .ok (.if_acmp .ne 7, 3) := by decide +kernel
theorem ef1ie (m : MethodId) (ie : Addr) : entryFrame m #[(.ref ie)] 1 = mkF m 0 #[.val (.ref ie)] [] := by first | (simp [entryFrame, mkF, argsToLocals, Value.category]; done) | rfl
def Q1ie (Z : State) (ie : Addr) (st : Addr) (un : Addr) (en : Addr) (h0 : Heap) (n0 : Nat) (v : Option Value) (h : Heap) (L : List Loc) : Prop := v = some (.int (1 : Int32)) ∧ Fr n0 L ∧ h = h0
set_option maxRecDepth 65536 in
set_option maxHeartbeats 40000000 in
theorem rm1ie (l : Launch) (Z : State) (a0 : Array Value) (hw : ∀ d ∈ tables_1, d.before a0 Z = true) (ws : List Jvm.Cond) (ie : Addr) (st : Addr) (un : Addr) (en : Addr) (h0 : Heap) (n0 : Nat) (Z0 : n0 ≤ h0.size) (S_st : Sta Z h0 "com/example/hewgen/hewgen/model/ShapeType" "STRUCTURE" "Lcom/example/hewgen/hewgen/model/ShapeType;" (.ref st)) (S_un : Sta Z h0 "com/example/hewgen/hewgen/model/ShapeType" "UNION" "Lcom/example/hewgen/hewgen/model/ShapeType;" (.ref un)) (S_en : Sta Z h0 "com/example/hewgen/hewgen/model/ShapeType" "ENUM" "Lcom/example/hewgen/hewgen/model/ShapeType;" (.ref en)) (S_ie : Sta Z h0 "com/example/hewgen/hewgen/model/ShapeType" "INT_ENUM" "Lcom/example/hewgen/hewgen/model/ShapeType;" (.ref ie)) (n_st : ie ≠ st) (n_un : ie ≠ un) (n_en : ie ≠ en) :
    MetFree l (⟨"com/example/hewgen/hewgen/model/ShapeType", "hasNamedMembers", "()Z"⟩ : MethodName) (head1 (Jvm.Cond.code (⟨"com/example/hewgen/hewgen/model/ShapeType", "hasNamedMembers", "()Z"⟩ : MethodName) prog_37_method_6_code 1 (some .boolean) :: ws) ({ frames := 0, cells := 0, slots := 0, locals := 0 } : Room)) (fun a U => a = #[(.ref ie)] ∧ Z.Warmed39 U.vm ∧ U.heap = h0) (fun _ _ _ _ _ => True) (fun _ U o U' => ∃ v L, o = .returned v ∧ Q1ie Z ie st un en h0 n0 v U'.heap L ∧ FrameEnd U o U' L ({ frames := 0, cells := 0, slots := 0, locals := 0 } : Room).cells ({ frames := 0, cells := 0, slots := 0, locals := 0 } : Room).slots) := by
  refine MetFree.of_bodySF (plainFor_of_name pn0) hisR ?_
  intro p e s m args below meth c s₁ Bd hml0 hP hK
  obtain ⟨rfl, hZ, hh⟩ := hP
  have hx := Bd.exec
  have hby := Bd.bytes
  have hml : c.maxLocals = 1 := hml0
  have hown : s.vm.findClass "com/example/hewgen/hewgen/model/ShapeType" = some m.cls := findClass_of_methodNamed Bd.named
  have hnm := (name_of_methodNamed Bd.named Bd.method).1
  have X0 : Stand p l e ({ frames := 0, cells := 0, slots := 0, locals := 0 } : Room) s m #[(.ref ie)] below meth c s₁ [] 0 0 := Stand.of_body Bd
  have e0 : s₁.heap = h0 := by rw [← hh, Bd.state]; rfl
  have N0 := Fr.nil n0
  have pre0 : ∀ tZ, Steps p.tables e below (s₁.setTop (mkF m 0 #[.val (.ref ie)] [])) tZ → Steps p.tables e below (s₁.setTop (entryFrame m #[(.ref ie)] 1)) tZ := fun tZ kZ => castTop (ef1ie m ie) kZ
  obtain ⟨T1, X1, e1, st1⟩ := getS2 X0 hx hZ hown (host := "") (Or.inl (ow hw 56 rfl)) Via.refl e0 S_st (g := (mkF m 1 #[.val (.ref ie)] [(.ref ie)])) rfl (hb hby d1_1)
  obtain ⟨T2, X2, e2, st2⟩ := getS2 X1 hx hZ hown (host := "") (Or.inl (ow hw 57 rfl)) Via.refl e1 S_un (g := (mkF m 8 #[.val (.ref ie)] [(.ref ie)])) rfl (hb hby d1_8)
  obtain ⟨T3, X3, e3, st3⟩ := getS2 X2 hx hZ hown (host := "") (Or.inl (ow hw 58 rfl)) Via.refl e2 S_en (g := (mkF m 15 #[.val (.ref ie)] [(.ref ie)])) rfl (hb hby d1_15)
  obtain ⟨T4, X4, e4, st4⟩ := getS2 X3 hx hZ hown (host := "") (Or.inl (ow hw 59 rfl)) Via.refl e3 S_ie (g := (mkF m 22 #[.val (.ref ie)] [(.ref ie)])) rfl (hb hby d1_22)
  obtain ⟨fsZ, hrZ, hrun, hended, hW, hsame⟩ := X4.leave (v := some (.int (1 : Int32))) (fun h => by rw [Bd.returns] at h; cases h)
  refine ⟨_, _, pre0 _ ?_, hrun, hended, _, _, rfl, ?_, ⟨_, rfl⟩, hW, hsame.mono (by decide) (by decide)⟩
  · show Steps p.tables e below (s₁.setTop (mkF m 0 #[.val (.ref ie)] [])) _
    refine XS.aloadN X0.here hx rfl (hb hby d1_0) rfl rfl ?_
    show Steps p.tables e below (s₁.setTop (mkF m 1 #[.val (.ref ie)] [(.ref ie)])) _
    refine st1 _ ?_
    show Steps p.tables e below (T1.setTop (mkF m 4 #[.val (.ref ie)] [(.ref st), (.ref ie)])) _
    refine Jvm.RoadKit.acmp (g := (mkF m 4 #[.val (.ref ie)] [(.ref st), (.ref ie)])) X1 hx rfl rfl rfl (pc0 := 4) (pc' := 7) (same := false) rfl (hb hby d1_4) rfl (decide_eq_false fun q => n_st (Value.ref.inj q)) (by decide) (by decide) ?_
    show Steps p.tables e below (T1.setTop (mkF m 7 #[.val (.ref ie)] [])) _
    refine XS.aloadN X1.here hx rfl (hb hby d1_7) rfl rfl ?_
    show Steps p.tables e below (T1.setTop (mkF m 8 #[.val (.ref ie)] [(.ref ie)])) _
    refine st2 _ ?_
    show Steps p.tables e below (T2.setTop (mkF m 11 #[.val (.ref ie)] [(.ref un), (.ref ie)])) _
    refine Jvm.RoadKit.acmp (g := (mkF m 11 #[.val (.ref ie)] [(.ref un), (.ref ie)])) X2 hx rfl rfl rfl (pc0 := 11) (pc' := 14) (same := false) rfl (hb hby d1_11) rfl (decide_eq_false fun q => n_un (Value.ref.inj q)) (by decide) (by decide) ?_
    show Steps p.tables e below (T2.setTop (mkF m 14 #[.val (.ref ie)] [])) _
    refine XS.aloadN X2.here hx rfl (hb hby d1_14) rfl rfl ?_
    show Steps p.tables e below (T2.setTop (mkF m 15 #[.val (.ref ie)] [(.ref ie)])) _
    refine st3 _ ?_
    show Steps p.tables e below (T3.setTop (mkF m 18 #[.val (.ref ie)] [(.ref en), (.ref ie)])) _
    refine Jvm.RoadKit.acmp (g := (mkF m 18 #[.val (.ref ie)] [(.ref en), (.ref ie)])) X3 hx rfl rfl rfl (pc0 := 18) (pc' := 21) (same := false) rfl (hb hby d1_18) rfl (decide_eq_false fun q => n_en (Value.ref.inj q)) (by decide) (by decide) ?_
    show Steps p.tables e below (T3.setTop (mkF m 21 #[.val (.ref ie)] [])) _
    refine XS.aloadN X3.here hx rfl (hb hby d1_21) rfl rfl ?_
    show Steps p.tables e below (T3.setTop (mkF m 22 #[.val (.ref ie)] [(.ref ie)])) _
    refine st4 _ ?_
    show Steps p.tables e below (T4.setTop (mkF m 25 #[.val (.ref ie)] [(.ref ie), (.ref ie)])) _
    refine Jvm.RoadKit.acmp (g := (mkF m 25 #[.val (.ref ie)] [(.ref ie), (.ref ie)])) X4 hx rfl rfl rfl (pc0 := 25) (pc' := 28) (same := true) rfl (hb hby d1_25) rfl (decide_eq_true rfl) (by decide) (by decide) ?_
    show Steps p.tables e below (T4.setTop (mkF m 28 #[.val (.ref ie)] [])) _
    refine XS.iconst X4.here hx rfl (hb hby d1_28) ?_
    show Steps p.tables e below (T4.setTop (mkF m 29 #[.val (.ref ie)] [(.int (1 : Int32))])) _
    refine XS.goto X4.here hx rfl (pc0 := 29) (pc' := 33) rfl (hb hby d1_29) (by decide) (by decide) ?_
    show Steps p.tables e below (T4.setTop (mkF m 33 #[.val (.ref ie)] [(.int (1 : Int32))])) _
    exact retN X4 hx (t := .boolean) Bd.returns (by simp) (hb hby d1_33) hrZ
  · show Q1ie Z ie st un en h0 n0 _ T4.heap _
    rw [e4]
    exact ⟨rfl, N0, rfl⟩
theorem d1_32 : decode prog_37_method_6_code 32 = .ok (.iconst 0, 1) := by decide +kernel
theorem ef1n (m : MethodId) (rc : Addr) : entryFrame m #[(.ref rc)] 1 = mkF m 0 #[.val (.ref rc)] [] := by first | (simp [entryFrame, mkF, argsToLocals, Value.category]; done) | rfl
def Q1n (Z : State) (rc : Addr) (st : Addr) (un : Addr) (en : Addr) (ie : Addr) (h0 : Heap) (n0 : Nat) (v : Option Value) (h : Heap) (L : List Loc) : Prop := v = some (.int (0 : Int32)) ∧ Fr n0 L ∧ h = h0
set_option maxRecDepth 65536 in
set_option maxHeartbeats 40000000 in
theorem rm1n (l : Launch) (Z : State) (a0 : Array Value) (hw : ∀ d ∈ tables_1, d.before a0 Z = true) (ws : List Jvm.Cond) (rc : Addr) (st : Addr) (un : Addr) (en : Addr) (ie : Addr) (h0 : Heap) (n0 : Nat) (Z0 : n0 ≤ h0.size) (S_st : Sta Z h0 "com/example/hewgen/hewgen/model/ShapeType" "STRUCTURE" "Lcom/example/hewgen/hewgen/model/ShapeType;" (.ref st)) (S_un : Sta Z h0 "com/example/hewgen/hewgen/model/ShapeType" "UNION" "Lcom/example/hewgen/hewgen/model/ShapeType;" (.ref un)) (S_en : Sta Z h0 "com/example/hewgen/hewgen/model/ShapeType" "ENUM" "Lcom/example/hewgen/hewgen/model/ShapeType;" (.ref en)) (S_ie : Sta Z h0 "com/example/hewgen/hewgen/model/ShapeType" "INT_ENUM" "Lcom/example/hewgen/hewgen/model/ShapeType;" (.ref ie)) (n_st : rc ≠ st) (n_un : rc ≠ un) (n_en : rc ≠ en) (n_ie : rc ≠ ie) :
    MetFree l (⟨"com/example/hewgen/hewgen/model/ShapeType", "hasNamedMembers", "()Z"⟩ : MethodName) (head1 (Jvm.Cond.code (⟨"com/example/hewgen/hewgen/model/ShapeType", "hasNamedMembers", "()Z"⟩ : MethodName) prog_37_method_6_code 1 (some .boolean) :: ws) ({ frames := 0, cells := 0, slots := 0, locals := 0 } : Room)) (fun a U => a = #[(.ref rc)] ∧ Z.Warmed39 U.vm ∧ U.heap = h0) (fun _ _ _ _ _ => True) (fun _ U o U' => ∃ v L, o = .returned v ∧ Q1n Z rc st un en ie h0 n0 v U'.heap L ∧ FrameEnd U o U' L ({ frames := 0, cells := 0, slots := 0, locals := 0 } : Room).cells ({ frames := 0, cells := 0, slots := 0, locals := 0 } : Room).slots) := by
  refine MetFree.of_bodySF (plainFor_of_name pn0) hisR ?_
  intro p e s m args below meth c s₁ Bd hml0 hP hK
  obtain ⟨rfl, hZ, hh⟩ := hP
  have hx := Bd.exec
  have hby := Bd.bytes
  have hml : c.maxLocals = 1 := hml0
  have hown : s.vm.findClass "com/example/hewgen/hewgen/model/ShapeType" = some m.cls := findClass_of_methodNamed Bd.named
  have hnm := (name_of_methodNamed Bd.named Bd.method).1
  have X0 : Stand p l e ({ frames := 0, cells := 0, slots := 0, locals := 0 } : Room) s m #[(.ref rc)] below meth c s₁ [] 0 0 := Stand.of_body Bd
  have e0 : s₁.heap = h0 := by rw [← hh, Bd.state]; rfl
  have N0 := Fr.nil n0
  have pre0 : ∀ tZ, Steps p.tables e below (s₁.setTop (mkF m 0 #[.val (.ref rc)] [])) tZ → Steps p.tables e below (s₁.setTop (entryFrame m #[(.ref rc)] 1)) tZ := fun tZ kZ => castTop (ef1n m rc) kZ
  obtain ⟨T1, X1, e1, st1⟩ := getS2 X0 hx hZ hown (host := "") (Or.inl (ow hw 56 rfl)) Via.refl e0 S_st (g := (mkF m 1 #[.val (.ref rc)] [(.ref rc)])) rfl (hb hby d1_1)
  obtain ⟨T2, X2, e2, st2⟩ := getS2 X1 hx hZ hown (host := "") (Or.inl (ow hw 57 rfl)) Via.refl e1 S_un (g := (mkF m 8 #[.val (.ref rc)] [(.ref rc)])) rfl (hb hby d1_8)
  obtain ⟨T3, X3, e3, st3⟩ := getS2 X2 hx hZ hown (host := "") (Or.inl (ow hw 58 rfl)) Via.refl e2 S_en (g := (mkF m 15 #[.val (.ref rc)] [(.ref rc)])) rfl (hb hby d1_15)
  obtain ⟨T4, X4, e4, st4⟩ := getS2 X3 hx hZ hown (host := "") (Or.inl (ow hw 59 rfl)) Via.refl e3 S_ie (g := (mkF m 22 #[.val (.ref rc)] [(.ref rc)])) rfl (hb hby d1_22)
  obtain ⟨fsZ, hrZ, hrun, hended, hW, hsame⟩ := X4.leave (v := some (.int (0 : Int32))) (fun h => by rw [Bd.returns] at h; cases h)
  refine ⟨_, _, pre0 _ ?_, hrun, hended, _, _, rfl, ?_, ⟨_, rfl⟩, hW, hsame.mono (by decide) (by decide)⟩
  · show Steps p.tables e below (s₁.setTop (mkF m 0 #[.val (.ref rc)] [])) _
    refine XS.aloadN X0.here hx rfl (hb hby d1_0) rfl rfl ?_
    show Steps p.tables e below (s₁.setTop (mkF m 1 #[.val (.ref rc)] [(.ref rc)])) _
    refine st1 _ ?_
    show Steps p.tables e below (T1.setTop (mkF m 4 #[.val (.ref rc)] [(.ref st), (.ref rc)])) _
    refine Jvm.RoadKit.acmp (g := (mkF m 4 #[.val (.ref rc)] [(.ref st), (.ref rc)])) X1 hx rfl rfl rfl (pc0 := 4) (pc' := 7) (same := false) rfl (hb hby d1_4) rfl (decide_eq_false fun q => n_st (Value.ref.inj q)) (by decide) (by decide) ?_
    show Steps p.tables e below (T1.setTop (mkF m 7 #[.val (.ref rc)] [])) _
    refine XS.aloadN X1.here hx rfl (hb hby d1_7) rfl rfl ?_
    show Steps p.tables e below (T1.setTop (mkF m 8 #[.val (.ref rc)] [(.ref rc)])) _
    refine st2 _ ?_
    show Steps p.tables e below (T2.setTop (mkF m 11 #[.val (.ref rc)] [(.ref un), (.ref rc)])) _
    refine Jvm.RoadKit.acmp (g := (mkF m 11 #[.val (.ref rc)] [(.ref un), (.ref rc)])) X2 hx rfl rfl rfl (pc0 := 11) (pc' := 14) (same := false) rfl (hb hby d1_11) rfl (decide_eq_false fun q => n_un (Value.ref.inj q)) (by decide) (by decide) ?_
    show Steps p.tables e below (T2.setTop (mkF m 14 #[.val (.ref rc)] [])) _
    refine XS.aloadN X2.here hx rfl (hb hby d1_14) rfl rfl ?_
    show Steps p.tables e below (T2.setTop (mkF m 15 #[.val (.ref rc)] [(.ref rc)])) _
    refine st3 _ ?_
    show Steps p.tables e below (T3.setTop (mkF m 18 #[.val (.ref rc)] [(.ref en), (.ref rc)])) _
    refine Jvm.RoadKit.acmp (g := (mkF m 18 #[.val (.ref rc)] [(.ref en), (.ref rc)])) X3 hx rfl rfl rfl (pc0 := 18) (pc' := 21) (same := false) rfl (hb hby d1_18) rfl (decide_eq_false fun q => n_en (Value.ref.inj q)) (by decide) (by decide) ?_
    show Steps p.tables e below (T3.setTop (mkF m 21 #[.val (.ref rc)] [])) _
    refine XS.aloadN X3.here hx rfl (hb hby d1_21) rfl rfl ?_
    show Steps p.tables e below (T3.setTop (mkF m 22 #[.val (.ref rc)] [(.ref rc)])) _
    refine st4 _ ?_
    show Steps p.tables e below (T4.setTop (mkF m 25 #[.val (.ref rc)] [(.ref ie), (.ref rc)])) _
    refine Jvm.RoadKit.acmp (g := (mkF m 25 #[.val (.ref rc)] [(.ref ie), (.ref rc)])) X4 hx rfl rfl rfl (pc0 := 25) (pc' := 32) (same := false) rfl (hb hby d1_25) rfl (decide_eq_false fun q => n_ie (Value.ref.inj q)) (by decide) (by decide) ?_
    show Steps p.tables e below (T4.setTop (mkF m 32 #[.val (.ref rc)] [])) _
    refine XS.iconst X4.here hx rfl (hb hby d1_32) ?_
    show Steps p.tables e below (T4.setTop (mkF m 33 #[.val (.ref rc)] [(.int (0 : Int32))])) _
    exact retN X4 hx (t := .boolean) Bd.returns (by simp) (hb hby d1_33) hrZ
  · show Q1n Z rc st un en ie h0 n0 _ T4.heap _
    rw [e4]
    exact ⟨rfl, N0, rfl⟩
theorem pn1 : plainName "com/example/hewgen/hewgen/model/ShapeTypeHasNamedMembersPinLaw" = true := by first | (simp [plainName, overriddenIn]; done) | decide +kernel
theorem pd2 : parseMethodDescriptor "()Z" = some ⟨[], some .boolean⟩ := by decide +kernel
theorem ef0 (m : MethodId) (p1 : Int32) : entryFrame m #[(.int p1)] maxLocals = mkF m 0 #[.val (.int p1), .unset, .unset, .unset, .unset] [] := by first | (simp [entryFrame, mkF, argsToLocals, Value.category, maxLocals]; done) | rfl
def Q0 (Z : State) (p1 : Int32) (t0 : Addr) (t1 : Addr) (t2 : Addr) (t3 : Addr) (t4 : Addr) (t5 : Addr) (t6 : Addr) (t7 : Addr) (t8 : Addr) (t9 : Addr) (t10 : Addr) (t11 : Addr) (t12 : Addr) (t13 : Addr) (t14 : Addr) (t15 : Addr) (t16 : Addr) (t17 : Addr) (t18 : Addr) (t19 : Addr) (t20 : Addr) (t21 : Addr) (t22 : Addr) (h0 : Heap) (n0 : Nat) (v : Option Value) (h : Heap) (L : List Loc) : Prop := v = some (.int (1 : Int32)) ∧ Fr n0 L
set_option maxRecDepth 65536 in
set_option maxHeartbeats 40000000 in
theorem rm0 (l : Launch) (Z : State) (a0 : Array Value) (hw : ∀ d ∈ tables_1, d.before a0 Z = true) (ws : List Jvm.Cond) (p1 : Int32) (t0 : Addr) (t1 : Addr) (t2 : Addr) (t3 : Addr) (t4 : Addr) (t5 : Addr) (t6 : Addr) (t7 : Addr) (t8 : Addr) (t9 : Addr) (t10 : Addr) (t11 : Addr) (t12 : Addr) (t13 : Addr) (t14 : Addr) (t15 : Addr) (t16 : Addr) (t17 : Addr) (t18 : Addr) (t19 : Addr) (t20 : Addr) (t21 : Addr) (t22 : Addr) (h0 : Heap) (n0 : Nat) (Z0 : n0 ≤ h0.size) (S0 : Sta Z h0 "com/example/hewgen/hewgen/model/ShapeType" "BLOB" "Lcom/example/hewgen/hewgen/model/ShapeType;" (.ref t0)) (S1 : Sta Z h0 "com/example/hewgen/hewgen/model/ShapeType" "BOOLEAN" "Lcom/example/hewgen/hewgen/model/ShapeType;" (.ref t1)) (S2 : Sta Z h0 "com/example/hewgen/hewgen/model/ShapeType" "STRING" "Lcom/example/hewgen/hewgen/model/ShapeType;" (.ref t2)) (S3 : Sta Z h0 "com/example/hewgen/hewgen/model/ShapeType" "BYTE" "Lcom/example/hewgen/hewgen/model/ShapeType;" (.ref t3)) (S4 : Sta Z h0 "com/example/hewgen/hewgen/model/ShapeType" "SHORT" "Lcom/example/hewgen/hewgen/model/ShapeType;" (.ref t4)) (S5 : Sta Z h0 "com/example/hewgen/hewgen/model/ShapeType" "INTEGER" "Lcom/example/hewgen/hewgen/model/ShapeType;" (.ref t5)) (S6 : Sta Z h0 "com/example/hewgen/hewgen/model/ShapeType" "LONG" "Lcom/example/hewgen/hewgen/model/ShapeType;" (.ref t6)) (S7 : Sta Z h0 "com/example/hewgen/hewgen/model/ShapeType" "FLOAT" "Lcom/example/hewgen/hewgen/model/ShapeType;" (.ref t7)) (S8 : Sta Z h0 "com/example/hewgen/hewgen/model/ShapeType" "DOUBLE" "Lcom/example/hewgen/hewgen/model/ShapeType;" (.ref t8)) (S9 : Sta Z h0 "com/example/hewgen/hewgen/model/ShapeType" "BIG_INTEGER" "Lcom/example/hewgen/hewgen/model/ShapeType;" (.ref t9)) (S10 : Sta Z h0 "com/example/hewgen/hewgen/model/ShapeType" "BIG_DECIMAL" "Lcom/example/hewgen/hewgen/model/ShapeType;" (.ref t10)) (S11 : Sta Z h0 "com/example/hewgen/hewgen/model/ShapeType" "TIMESTAMP" "Lcom/example/hewgen/hewgen/model/ShapeType;" (.ref t11)) (S12 : Sta Z h0 "com/example/hewgen/hewgen/model/ShapeType" "DOCUMENT" "Lcom/example/hewgen/hewgen/model/ShapeType;" (.ref t12)) (S13 : Sta Z h0 "com/example/hewgen/hewgen/model/ShapeType" "ENUM" "Lcom/example/hewgen/hewgen/model/ShapeType;" (.ref t13)) (S14 : Sta Z h0 "com/example/hewgen/hewgen/model/ShapeType" "INT_ENUM" "Lcom/example/hewgen/hewgen/model/ShapeType;" (.ref t14)) (S15 : Sta Z h0 "com/example/hewgen/hewgen/model/ShapeType" "LIST" "Lcom/example/hewgen/hewgen/model/ShapeType;" (.ref t15)) (S16 : Sta Z h0 "com/example/hewgen/hewgen/model/ShapeType" "MAP" "Lcom/example/hewgen/hewgen/model/ShapeType;" (.ref t16)) (S17 : Sta Z h0 "com/example/hewgen/hewgen/model/ShapeType" "STRUCTURE" "Lcom/example/hewgen/hewgen/model/ShapeType;" (.ref t17)) (S18 : Sta Z h0 "com/example/hewgen/hewgen/model/ShapeType" "UNION" "Lcom/example/hewgen/hewgen/model/ShapeType;" (.ref t18)) (S19 : Sta Z h0 "com/example/hewgen/hewgen/model/ShapeType" "SERVICE" "Lcom/example/hewgen/hewgen/model/ShapeType;" (.ref t19)) (S20 : Sta Z h0 "com/example/hewgen/hewgen/model/ShapeType" "OPERATION" "Lcom/example/hewgen/hewgen/model/ShapeType;" (.ref t20)) (S21 : Sta Z h0 "com/example/hewgen/hewgen/model/ShapeType" "RESOURCE" "Lcom/example/hewgen/hewgen/model/ShapeType;" (.ref t21)) (S22 : Sta Z h0 "com/example/hewgen/hewgen/model/ShapeType" "MEMBER" "Lcom/example/hewgen/hewgen/model/ShapeType;" (.ref t22)) (Ex0 : Exa Z h0 t0 "com/example/hewgen/hewgen/model/ShapeType") (Ex1 : Exa Z h0 t1 "com/example/hewgen/hewgen/model/ShapeType") (Ex2 : Exa Z h0 t2 "com/example/hewgen/hewgen/model/ShapeType") (Ex3 : Exa Z h0 t3 "com/example/hewgen/hewgen/model/ShapeType") (Ex4 : Exa Z h0 t4 "com/example/hewgen/hewgen/model/ShapeType") (Ex5 : Exa Z h0 t5 "com/example/hewgen/hewgen/model/ShapeType") (Ex6 : Exa Z h0 t6 "com/example/hewgen/hewgen/model/ShapeType") (Ex7 : Exa Z h0 t7 "com/example/hewgen/hewgen/model/ShapeType") (Ex8 : Exa Z h0 t8 "com/example/hewgen/hewgen/model/ShapeType") (Ex9 : Exa Z h0 t9 "com/example/hewgen/hewgen/model/ShapeType") (Ex10 : Exa Z h0 t10 "com/example/hewgen/hewgen/model/ShapeType") (Ex11 : Exa Z h0 t11 "com/example/hewgen/hewgen/model/ShapeType") (Ex12 : Exa Z h0 t12 "com/example/hewgen/hewgen/model/ShapeType") (Ex13 : Exa Z h0 t13 "com/example/hewgen/hewgen/model/ShapeType") (Ex14 : Exa Z h0 t14 "com/example/hewgen/hewgen/model/ShapeType") (Ex15 : Exa Z h0 t15 "com/example/hewgen/hewgen/model/ShapeType") (Ex16 : Exa Z h0 t16 "com/example/hewgen/hewgen/model/ShapeType") (Ex17 : Exa Z h0 t17 "com/example/hewgen/hewgen/model/ShapeType") (Ex18 : Exa Z h0 t18 "com/example/hewgen/hewgen/model/ShapeType") (Ex19 : Exa Z h0 t19 "com/example/hewgen/hewgen/model/ShapeType") (Ex20 : Exa Z h0 t20 "com/example/hewgen/hewgen/model/ShapeType") (Ex21 : Exa Z h0 t21 "com/example/hewgen/hewgen/model/ShapeType") (Ex22 : Exa Z h0 t22 "com/example/hewgen/hewgen/model/ShapeType") (n0_13 : t0 ≠ t13) (n0_14 : t0 ≠ t14) (n0_17 : t0 ≠ t17) (n0_18 : t0 ≠ t18) (n1_13 : t1 ≠ t13) (n1_14 : t1 ≠ t14) (n1_17 : t1 ≠ t17) (n1_18 : t1 ≠ t18) (n2_13 : t2 ≠ t13) (n2_14 : t2 ≠ t14) (n2_17 : t2 ≠ t17) (n2_18 : t2 ≠ t18) (n3_13 : t3 ≠ t13) (n3_14 : t3 ≠ t14) (n3_17 : t3 ≠ t17) (n3_18 : t3 ≠ t18) (n4_13 : t4 ≠ t13) (n4_14 : t4 ≠ t14) (n4_17 : t4 ≠ t17) (n4_18 : t4 ≠ t18) (n5_13 : t5 ≠ t13) (n5_14 : t5 ≠ t14) (n5_17 : t5 ≠ t17) (n5_18 : t5 ≠ t18) (n6_13 : t6 ≠ t13) (n6_14 : t6 ≠ t14) (n6_17 : t6 ≠ t17) (n6_18 : t6 ≠ t18) (n7_13 : t7 ≠ t13) (n7_14 : t7 ≠ t14) (n7_17 : t7 ≠ t17) (n7_18 : t7 ≠ t18) (n8_13 : t8 ≠ t13) (n8_14 : t8 ≠ t14) (n8_17 : t8 ≠ t17) (n8_18 : t8 ≠ t18) (n9_13 : t9 ≠ t13) (n9_14 : t9 ≠ t14) (n9_17 : t9 ≠ t17) (n9_18 : t9 ≠ t18) (n10_13 : t10 ≠ t13) (n10_14 : t10 ≠ t14) (n10_17 : t10 ≠ t17) (n10_18 : t10 ≠ t18) (n11_13 : t11 ≠ t13) (n11_14 : t11 ≠ t14) (n11_17 : t11 ≠ t17) (n11_18 : t11 ≠ t18) (n12_13 : t12 ≠ t13) (n12_14 : t12 ≠ t14) (n12_17 : t12 ≠ t17) (n12_18 : t12 ≠ t18) (n13_14 : t13 ≠ t14) (n13_17 : t13 ≠ t17) (n13_18 : t13 ≠ t18) (n14_13 : t14 ≠ t13) (n14_17 : t14 ≠ t17) (n14_18 : t14 ≠ t18) (n15_13 : t15 ≠ t13) (n15_14 : t15 ≠ t14) (n15_17 : t15 ≠ t17) (n15_18 : t15 ≠ t18) (n16_13 : t16 ≠ t13) (n16_14 : t16 ≠ t14) (n16_17 : t16 ≠ t17) (n16_18 : t16 ≠ t18) (n17_13 : t17 ≠ t13) (n17_14 : t17 ≠ t14) (n17_18 : t17 ≠ t18) (n18_13 : t18 ≠ t13) (n18_14 : t18 ≠ t14) (n18_17 : t18 ≠ t17) (n19_13 : t19 ≠ t13) (n19_14 : t19 ≠ t14) (n19_17 : t19 ≠ t17) (n19_18 : t19 ≠ t18) (n20_13 : t20 ≠ t13) (n20_14 : t20 ≠ t14) (n20_17 : t20 ≠ t17) (n20_18 : t20 ≠ t18) (n21_13 : t21 ≠ t13) (n21_14 : t21 ≠ t14) (n21_17 : t21 ≠ t17) (n21_18 : t21 ≠ t18) (n22_13 : t22 ≠ t13) (n22_14 : t22 ≠ t14) (n22_17 : t22 ≠ t17) (n22_18 : t22 ≠ t18) :
    MetFree l x (head1 (Jvm.Cond.code x code maxLocals ret :: ws) room_1) (fun a U => a = #[(.int p1)] ∧ Z.Warmed39 U.vm ∧ U.heap = h0) (fun _ _ _ _ _ => True) (fun _ U o U' => ∃ v L, o = .returned v ∧ Q0 Z p1 t0 t1 t2 t3 t4 t5 t6 t7 t8 t9 t10 t11 t12 t13 t14 t15 t16 t17 t18 t19 t20 t21 t22 h0 n0 v U'.heap L ∧ FrameEnd U o U' L room_1.cells room_1.slots) := by
  refine MetFree.of_bodySF (plainFor_of_name pn1) hisR ?_
  intro p e s m args below meth c s₁ Bd hml0 hP hK
  obtain ⟨rfl, hZ, hh⟩ := hP
  have hx := Bd.exec
  have hby := Bd.bytes
  have hml : c.maxLocals = 5 := hml0
  have hown : s.vm.findClass "com/example/hewgen/hewgen/model/ShapeTypeHasNamedMembersPinLaw" = some m.cls := findClass_of_methodNamed Bd.named
  have hnm := (name_of_methodNamed Bd.named Bd.method).1
  have X0 : Stand p l e room_1 s m #[(.int p1)] below meth c s₁ [] 0 0 := Stand.of_body Bd
  have e0 : s₁.heap = h0 := by rw [← hh, Bd.state]; rfl
  have N0 := Fr.nil n0
  have pre0 : ∀ tZ, Steps p.tables e below (s₁.setTop (mkF m 0 #[.val (.int p1), .unset, .unset, .unset, .unset] [])) tZ → Steps p.tables e below (s₁.setTop (entryFrame m #[(.int p1)] maxLocals)) tZ := fun tZ kZ => castTop (ef0 m p1) kZ
  obtain ⟨T1, h1, k1, X1, e1, E1, A1, O1, st1⟩ := newR X0 hx hZ hown (ow hw 0 rfl) (ow hw 1 rfl) e0 (g := (mkF m 2 #[.val (.int p1), .unset, .unset, .unset, .unset] [(.int (23 : Int32))])) rfl (hb hby at_2) rfl (by decide) (cap := 23) (by decide) (by decide) (by decide) (by decide)
  obtain ⟨b1, g1⟩ : ∃ z, z = h0.size := ⟨_, rfl⟩
  rw [← g1] at A1 st1
  have ne2 : t0 ≠ b1 := Nat.ne_of_lt (Nat.lt_of_lt_of_le Ex0.lt (Nat.le_of_eq g1.symm))
  have ne3 : t1 ≠ b1 := Nat.ne_of_lt (Nat.lt_of_lt_of_le Ex1.lt (Nat.le_of_eq g1.symm))
  have ne4 : t2 ≠ b1 := Nat.ne_of_lt (Nat.lt_of_lt_of_le Ex2.lt (Nat.le_of_eq g1.symm))
  have ne5 : t3 ≠ b1 := Nat.ne_of_lt (Nat.lt_of_lt_of_le Ex3.lt (Nat.le_of_eq g1.symm))
  have ne6 : t4 ≠ b1 := Nat.ne_of_lt (Nat.lt_of_lt_of_le Ex4.lt (Nat.le_of_eq g1.symm))
  have ne7 : t5 ≠ b1 := Nat.ne_of_lt (Nat.lt_of_lt_of_le Ex5.lt (Nat.le_of_eq g1.symm))
  have ne8 : t6 ≠ b1 := Nat.ne_of_lt (Nat.lt_of_lt_of_le Ex6.lt (Nat.le_of_eq g1.symm))
  have ne9 : t7 ≠ b1 := Nat.ne_of_lt (Nat.lt_of_lt_of_le Ex7.lt (Nat.le_of_eq g1.symm))
  have ne10 : t8 ≠ b1 := Nat.ne_of_lt (Nat.lt_of_lt_of_le Ex8.lt (Nat.le_of_eq g1.symm))
  have ne11 : t9 ≠ b1 := Nat.ne_of_lt (Nat.lt_of_lt_of_le Ex9.lt (Nat.le_of_eq g1.symm))
  have ne12 : t10 ≠ b1 := Nat.ne_of_lt (Nat.lt_of_lt_of_le Ex10.lt (Nat.le_of_eq g1.symm))
  have ne13 : t11 ≠ b1 := Nat.ne_of_lt (Nat.lt_of_lt_of_le Ex11.lt (Nat.le_of_eq g1.symm))
  have ne14 : t12 ≠ b1 := Nat.ne_of_lt (Nat.lt_of_lt_of_le Ex12.lt (Nat.le_of_eq g1.symm))
  have ne15 : t13 ≠ b1 := Nat.ne_of_lt (Nat.lt_of_lt_of_le Ex13.lt (Nat.le_of_eq g1.symm))
  have ne16 : t14 ≠ b1 := Nat.ne_of_lt (Nat.lt_of_lt_of_le Ex14.lt (Nat.le_of_eq g1.symm))
  have ne17 : t15 ≠ b1 := Nat.ne_of_lt (Nat.lt_of_lt_of_le Ex15.lt (Nat.le_of_eq g1.symm))
  have ne18 : t16 ≠ b1 := Nat.ne_of_lt (Nat.lt_of_lt_of_le Ex16.lt (Nat.le_of_eq g1.symm))
  have ne19 : t17 ≠ b1 := Nat.ne_of_lt (Nat.lt_of_lt_of_le Ex17.lt (Nat.le_of_eq g1.symm))
  have ne20 : t18 ≠ b1 := Nat.ne_of_lt (Nat.lt_of_lt_of_le Ex18.lt (Nat.le_of_eq g1.symm))
  have ne21 : t19 ≠ b1 := Nat.ne_of_lt (Nat.lt_of_lt_of_le Ex19.lt (Nat.le_of_eq g1.symm))
  have ne22 : t20 ≠ b1 := Nat.ne_of_lt (Nat.lt_of_lt_of_le Ex20.lt (Nat.le_of_eq g1.symm))
  have ne23 : t21 ≠ b1 := Nat.ne_of_lt (Nat.lt_of_lt_of_le Ex21.lt (Nat.le_of_eq g1.symm))
  have ne24 : t22 ≠ b1 := Nat.ne_of_lt (Nat.lt_of_lt_of_le Ex22.lt (Nat.le_of_eq g1.symm))
  have gn_b1 : n0 ≤ b1 := Nat.le_trans Z0 (Nat.le_of_eq g1.symm)
  have Z25 : n0 ≤ h1.size := Nat.le_trans Z0 E1.1
  have V1 : Arv Z h1 b1 k1 (.object "com/example/hewgen/hewgen/model/ShapeType") (23 : Int32) [.null, .null, .null, .null, .null, .null, .null, .null, .null, .null, .null, .null, .null, .null, .null, .null, .null, .null, .null, .null, .null, .null, .null] .null := (Arv.new A1 (by decide)).pad (pad_rep [] .null 23)
  have fa26 : Sta Z h1 "com/example/hewgen/hewgen/model/ShapeType" "BLOB" "Lcom/example/hewgen/hewgen/model/ShapeType;" (.ref t0) := (S0.ext E1)
  obtain ⟨T27, X27, e27, st27⟩ := getS2 X1 hx hZ hown (host := "") (Or.inl (ow hw 2 rfl)) Via.refl e1 fa26 (g := (mkF m 7 #[.val (.int p1), .unset, .unset, .unset, .unset] [(.int (0 : Int32)), (.ref b1), (.ref b1)])) rfl (hb hby at_7)
  obtain ⟨c28, Arc28, qc28, Sc28, Mc28, Hc28, Gc28⟩ := id V1
  have hinc28 : ¬ ((0 : Int32) < 0 ∨ c28.slots.size ≤ ((0 : Int32)).toNatClampNeg) := inb_of Sc28 ⟨by decide, by decide⟩
  have fa29 : Exa Z h1 t0 "com/example/hewgen/hewgen/model/ShapeType" := (Ex0.ext E1)
  obtain ⟨T30, h30, X30, e30, W30, st30⟩ := stR X27 hx hZ e27 Arc28 (j := (0 : Int32)) hinc28 rfl (Sto.ofV Arc28 qc28 O1 (Ins.self fa29)) (g := (mkF m 10 #[.val (.int p1), .unset, .unset, .unset, .unset] [(.ref t0), (.int (0 : Int32)), (.ref b1), (.ref b1)])) rfl rfl (hb hby at_10)
  have V30 : Arv Z h30 b1 k1 (.object "com/example/hewgen/hewgen/model/ShapeType") (23 : Int32) [(.ref t0), .null, .null, .null, .null, .null, .null, .null, .null, .null, .null, .null, .null, .null, .null, .null, .null, .null, .null, .null, .null, .null, .null] .null := Arv.set Arc28 qc28 Sc28 Mc28 Hc28 Gc28 rfl W30 0 rfl (Nat.le_of_ble_eq_true rfl)
  have Z31 : n0 ≤ h30.size := Nat.le_trans Z25 (Nat.le_of_eq W30.size.symm)
  have N30 := Fr.snoc X30 N0 gn_b1
  have fa32 : Sta Z h30 "com/example/hewgen/hewgen/model/ShapeType" "BOOLEAN" "Lcom/example/hewgen/hewgen/model/ShapeType;" (.ref t1) := ((S1.ext E1).wr W30)
  obtain ⟨T33, X33, e33, st33⟩ := getS2 X30 hx hZ hown (host := "") (Or.inl (ow hw 6 rfl)) Via.refl e30 fa32 (g := (mkF m 13 #[.val (.int p1), .unset, .unset, .unset, .unset] [(.int (1 : Int32)), (.ref b1), (.ref b1)])) rfl (hb hby at_13)
  obtain ⟨c34, Arc34, qc34, Sc34, Mc34, Hc34, Gc34⟩ := id V30
  have hinc34 : ¬ ((1 : Int32) < 0 ∨ c34.slots.size ≤ ((1 : Int32)).toNatClampNeg) := inb_of Sc34 ⟨by decide, by decide⟩
  have fa35 : Exa Z h30 t1 "com/example/hewgen/hewgen/model/ShapeType" := ((Ex1.ext E1).wr W30)
  obtain ⟨T36, h36, X36, e36, W36, st36⟩ := stR X33 hx hZ e33 Arc34 (j := (1 : Int32)) hinc34 rfl (Sto.ofV Arc34 qc34 O1 (Ins.self fa35)) (g := (mkF m 16 #[.val (.int p1), .unset, .unset, .unset, .unset] [(.ref t1), (.int (1 : Int32)), (.ref b1), (.ref b1)])) rfl rfl (hb hby at_16)
  have V36 : Arv Z h36 b1 k1 (.object "com/example/hewgen/hewgen/model/ShapeType") (23 : Int32) [(.ref t0), (.ref t1), .null, .null, .null, .null, .null, .null, .null, .null, .null, .null, .null, .null, .null, .null, .null, .null, .null, .null, .null, .null, .null] .null := Arv.set Arc34 qc34 Sc34 Mc34 Hc34 Gc34 rfl W36 1 rfl (Nat.le_of_ble_eq_true rfl)
  have Z37 : n0 ≤ h36.size := Nat.le_trans Z31 (Nat.le_of_eq W36.size.symm)
  have N36 := Fr.snoc X36 N30 gn_b1
  have fa38 : Sta Z h36 "com/example/hewgen/hewgen/model/ShapeType" "STRING" "Lcom/example/hewgen/hewgen/model/ShapeType;" (.ref t2) := (((S2.ext E1).wr W30).wr W36)
  obtain ⟨T39, X39, e39, st39⟩ := getS2 X36 hx hZ hown (host := "") (Or.inl (ow hw 8 rfl)) Via.refl e36 fa38 (g := (mkF m 19 #[.val (.int p1), .unset, .unset, .unset, .unset] [(.int (2 : Int32)), (.ref b1), (.ref b1)])) rfl (hb hby at_19)
  obtain ⟨c40, Arc40, qc40, Sc40, Mc40, Hc40, Gc40⟩ := id V36
  have hinc40 : ¬ ((2 : Int32) < 0 ∨ c40.slots.size ≤ ((2 : Int32)).toNatClampNeg) := inb_of Sc40 ⟨by decide, by decide⟩
  have fa41 : Exa Z h36 t2 "com/example/hewgen/hewgen/model/ShapeType" := (((Ex2.ext E1).wr W30).wr W36)
  obtain ⟨T42, h42, X42, e42, W42, st42⟩ := stR X39 hx hZ e39 Arc40 (j := (2 : Int32)) hinc40 rfl (Sto.ofV Arc40 qc40 O1 (Ins.self fa41)) (g := (mkF m 22 #[.val (.int p1), .unset, .unset, .unset, .unset] [(.ref t2), (.int (2 : Int32)), (.ref b1), (.ref b1)])) rfl rfl (hb hby at_22)
  have V42 : Arv Z h42 b1 k1 (.object "com/example/hewgen/hewgen/model/ShapeType") (23 : Int32) [(.ref t0), (.ref t1), (.ref t2), .null, .null, .null, .null, .null, .null, .null, .null, .null, .null, .null, .null, .null, .null, .null, .null, .null, .null, .null, .null] .null := Arv.set Arc40 qc40 Sc40 Mc40 Hc40 Gc40 rfl W42 2 rfl (Nat.le_of_ble_eq_true rfl)
  have Z43 : n0 ≤ h42.size := Nat.le_trans Z37 (Nat.le_of_eq W42.size.symm)
  have N42 := Fr.snoc X42 N36 gn_b1
  have fa44 : Sta Z h42 "com/example/hewgen/hewgen/model/ShapeType" "BYTE" "Lcom/example/hewgen/hewgen/model/ShapeType;" (.ref t3) := ((((S3.ext E1).wr W30).wr W36).wr W42)
  obtain ⟨T45, X45, e45, st45⟩ := getS2 X42 hx hZ hown (host := "") (Or.inl (ow hw 10 rfl)) Via.refl e42 fa44 (g := (mkF m 25 #[.val (.int p1), .unset, .unset, .unset, .unset] [(.int (3 : Int32)), (.ref b1), (.ref b1)])) rfl (hb hby at_25)
  obtain ⟨c46, Arc46, qc46, Sc46, Mc46, Hc46, Gc46⟩ := id V42
  have hinc46 : ¬ ((3 : Int32) < 0 ∨ c46.slots.size ≤ ((3 : Int32)).toNatClampNeg) := inb_of Sc46 ⟨by decide, by decide⟩
  have fa47 : Exa Z h42 t3 "com/example/hewgen/hewgen/model/ShapeType" := ((((Ex3.ext E1).wr W30).wr W36).wr W42)
  obtain ⟨T48, h48, X48, e48, W48, st48⟩ := stR X45 hx hZ e45 Arc46 (j := (3 : Int32)) hinc46 rfl (Sto.ofV Arc46 qc46 O1 (Ins.self fa47)) (g := (mkF m 28 #[.val (.int p1), .unset, .unset, .unset, .unset] [(.ref t3), (.int (3 : Int32)), (.ref b1), (.ref b1)])) rfl rfl (hb hby at_28)
  have V48 : Arv Z h48 b1 k1 (.object "com/example/hewgen/hewgen/model/ShapeType") (23 : Int32) [(.ref t0), (.ref t1), (.ref t2), (.ref t3), .null, .null, .null, .null, .null, .null, .null, .null, .null, .null, .null, .null, .null, .null, .null, .null, .null, .null, .null] .null := Arv.set Arc46 qc46 Sc46 Mc46 Hc46 Gc46 rfl W48 3 rfl (Nat.le_of_ble_eq_true rfl)
  have Z49 : n0 ≤ h48.size := Nat.le_trans Z43 (Nat.le_of_eq W48.size.symm)
  have N48 := Fr.snoc X48 N42 gn_b1
  have fa50 : Sta Z h48 "com/example/hewgen/hewgen/model/ShapeType" "SHORT" "Lcom/example/hewgen/hewgen/model/ShapeType;" (.ref t4) := (((((S4.ext E1).wr W30).wr W36).wr W42).wr W48)
  obtain ⟨T51, X51, e51, st51⟩ := getS2 X48 hx hZ hown (host := "") (Or.inl (ow hw 12 rfl)) Via.refl e48 fa50 (g := (mkF m 31 #[.val (.int p1), .unset, .unset, .unset, .unset] [(.int (4 : Int32)), (.ref b1), (.ref b1)])) rfl (hb hby at_31)
  obtain ⟨c52, Arc52, qc52, Sc52, Mc52, Hc52, Gc52⟩ := id V48
  have hinc52 : ¬ ((4 : Int32) < 0 ∨ c52.slots.size ≤ ((4 : Int32)).toNatClampNeg) := inb_of Sc52 ⟨by decide, by decide⟩
  have fa53 : Exa Z h48 t4 "com/example/hewgen/hewgen/model/ShapeType" := (((((Ex4.ext E1).wr W30).wr W36).wr W42).wr W48)
  obtain ⟨T54, h54, X54, e54, W54, st54⟩ := stR X51 hx hZ e51 Arc52 (j := (4 : Int32)) hinc52 rfl (Sto.ofV Arc52 qc52 O1 (Ins.self fa53)) (g := (mkF m 34 #[.val (.int p1), .unset, .unset, .unset, .unset] [(.ref t4), (.int (4 : Int32)), (.ref b1), (.ref b1)])) rfl rfl (hb hby at_34)
  have V54 : Arv Z h54 b1 k1 (.object "com/example/hewgen/hewgen/model/ShapeType") (23 : Int32) [(.ref t0), (.ref t1), (.ref t2), (.ref t3), (.ref t4), .null, .null, .null, .null, .null, .null, .null, .null, .null, .null, .null, .null, .null, .null, .null, .null, .null, .null] .null := Arv.set Arc52 qc52 Sc52 Mc52 Hc52 Gc52 rfl W54 4 rfl (Nat.le_of_ble_eq_true rfl)
  have Z55 : n0 ≤ h54.size := Nat.le_trans Z49 (Nat.le_of_eq W54.size.symm)
  have N54 := Fr.snoc X54 N48 gn_b1
  have fa56 : Sta Z h54 "com/example/hewgen/hewgen/model/ShapeType" "INTEGER" "Lcom/example/hewgen/hewgen/model/ShapeType;" (.ref t5) := ((((((S5.ext E1).wr W30).wr W36).wr W42).wr W48).wr W54)
  obtain ⟨T57, X57, e57, st57⟩ := getS2 X54 hx hZ hown (host := "") (Or.inl (ow hw 14 rfl)) Via.refl e54 fa56 (g := (mkF m 37 #[.val (.int p1), .unset, .unset, .unset, .unset] [(.int (5 : Int32)), (.ref b1), (.ref b1)])) rfl (hb hby at_37)
  obtain ⟨c58, Arc58, qc58, Sc58, Mc58, Hc58, Gc58⟩ := id V54
  have hinc58 : ¬ ((5 : Int32) < 0 ∨ c58.slots.size ≤ ((5 : Int32)).toNatClampNeg) := inb_of Sc58 ⟨by decide, by decide⟩
  have fa59 : Exa Z h54 t5 "com/example/hewgen/hewgen/model/ShapeType" := ((((((Ex5.ext E1).wr W30).wr W36).wr W42).wr W48).wr W54)
  obtain ⟨T60, h60, X60, e60, W60, st60⟩ := stR X57 hx hZ e57 Arc58 (j := (5 : Int32)) hinc58 rfl (Sto.ofV Arc58 qc58 O1 (Ins.self fa59)) (g := (mkF m 40 #[.val (.int p1), .unset, .unset, .unset, .unset] [(.ref t5), (.int (5 : Int32)), (.ref b1), (.ref b1)])) rfl rfl (hb hby at_40)
  have V60 : Arv Z h60 b1 k1 (.object "com/example/hewgen/hewgen/model/ShapeType") (23 : Int32) [(.ref t0), (.ref t1), (.ref t2), (.ref t3), (.ref t4), (.ref t5), .null, .null, .null, .null, .null, .null, .null, .null, .null, .null, .null, .null, .null, .null, .null, .null, .null] .null := Arv.set Arc58 qc58 Sc58 Mc58 Hc58 Gc58 rfl W60 5 rfl (Nat.le_of_ble_eq_true rfl)
  have Z61 : n0 ≤ h60.size := Nat.le_trans Z55 (Nat.le_of_eq W60.size.symm)
  have N60 := Fr.snoc X60 N54 gn_b1
  have fa62 : Sta Z h60 "com/example/hewgen/hewgen/model/ShapeType" "LONG" "Lcom/example/hewgen/hewgen/model/ShapeType;" (.ref t6) := (((((((S6.ext E1).wr W30).wr W36).wr W42).wr W48).wr W54).wr W60)
  obtain ⟨T63, X63, e63, st63⟩ := getS2 X60 hx hZ hown (host := "") (Or.inl (ow hw 16 rfl)) Via.refl e60 fa62 (g := (mkF m 44 #[.val (.int p1), .unset, .unset, .unset, .unset] [(.int (6 : Int32)), (.ref b1), (.ref b1)])) rfl (hb hby at_44)
  obtain ⟨c64, Arc64, qc64, Sc64, Mc64, Hc64, Gc64⟩ := id V60
  have hinc64 : ¬ ((6 : Int32) < 0 ∨ c64.slots.size ≤ ((6 : Int32)).toNatClampNeg) := inb_of Sc64 ⟨by decide, by decide⟩
  have fa65 : Exa Z h60 t6 "com/example/hewgen/hewgen/model/ShapeType" := (((((((Ex6.ext E1).wr W30).wr W36).wr W42).wr W48).wr W54).wr W60)
  obtain ⟨T66, h66, X66, e66, W66, st66⟩ := stR X63 hx hZ e63 Arc64 (j := (6 : Int32)) hinc64 rfl (Sto.ofV Arc64 qc64 O1 (Ins.self fa65)) (g := (mkF m 47 #[.val (.int p1), .unset, .unset, .unset, .unset] [(.ref t6), (.int (6 : Int32)), (.ref b1), (.ref b1)])) rfl rfl (hb hby at_47)
  have V66 : Arv Z h66 b1 k1 (.object "com/example/hewgen/hewgen/model/ShapeType") (23 : Int32) [(.ref t0), (.ref t1), (.ref t2), (.ref t3), (.ref t4), (.ref t5), (.ref t6), .null, .null, .null, .null, .null, .null, .null, .null, .null, .null, .null, .null, .null, .null, .null, .null] .null := Arv.set Arc64 qc64 Sc64 Mc64 Hc64 Gc64 rfl W66 6 rfl (Nat.le_of_ble_eq_true rfl)
  have Z67 : n0 ≤ h66.size := Nat.le_trans Z61 (Nat.le_of_eq W66.size.symm)
  have N66 := Fr.snoc X66 N60 gn_b1
  have fa68 : Sta Z h66 "com/example/hewgen/hewgen/model/ShapeType" "FLOAT" "Lcom/example/hewgen/hewgen/model/ShapeType;" (.ref t7) := ((((((((S7.ext E1).wr W30).wr W36).wr W42).wr W48).wr W54).wr W60).wr W66)
  obtain ⟨T69, X69, e69, st69⟩ := getS2 X66 hx hZ hown (host := "") (Or.inl (ow hw 18 rfl)) Via.refl e66 fa68 (g := (mkF m 51 #[.val (.int p1), .unset, .unset, .unset, .unset] [(.int (7 : Int32)), (.ref b1), (.ref b1)])) rfl (hb hby at_51)
  obtain ⟨c70, Arc70, qc70, Sc70, Mc70, Hc70, Gc70⟩ := id V66
  have hinc70 : ¬ ((7 : Int32) < 0 ∨ c70.slots.size ≤ ((7 : Int32)).toNatClampNeg) := inb_of Sc70 ⟨by decide, by decide⟩
  have fa71 : Exa Z h66 t7 "com/example/hewgen/hewgen/model/ShapeType" := ((((((((Ex7.ext E1).wr W30).wr W36).wr W42).wr W48).wr W54).wr W60).wr W66)
  obtain ⟨T72, h72, X72, e72, W72, st72⟩ := stR X69 hx hZ e69 Arc70 (j := (7 : Int32)) hinc70 rfl (Sto.ofV Arc70 qc70 O1 (Ins.self fa71)) (g := (mkF m 54 #[.val (.int p1), .unset, .unset, .unset, .unset] [(.ref t7), (.int (7 : Int32)), (.ref b1), (.ref b1)])) rfl rfl (hb hby at_54)
  have V72 : Arv Z h72 b1 k1 (.object "com/example/hewgen/hewgen/model/ShapeType") (23 : Int32) [(.ref t0), (.ref t1), (.ref t2), (.ref t3), (.ref t4), (.ref t5), (.ref t6), (.ref t7), .null, .null, .null, .null, .null, .null, .null, .null, .null, .null, .null, .null, .null, .null, .null] .null := Arv.set Arc70 qc70 Sc70 Mc70 Hc70 Gc70 rfl W72 7 rfl (Nat.le_of_ble_eq_true rfl)
  have Z73 : n0 ≤ h72.size := Nat.le_trans Z67 (Nat.le_of_eq W72.size.symm)
  have N72 := Fr.snoc X72 N66 gn_b1
  have fa74 : Sta Z h72 "com/example/hewgen/hewgen/model/ShapeType" "DOUBLE" "Lcom/example/hewgen/hewgen/model/ShapeType;" (.ref t8) := (((((((((S8.ext E1).wr W30).wr W36).wr W42).wr W48).wr W54).wr W60).wr W66).wr W72)
  obtain ⟨T75, X75, e75, st75⟩ := getS2 X72 hx hZ hown (host := "") (Or.inl (ow hw 20 rfl)) Via.refl e72 fa74 (g := (mkF m 58 #[.val (.int p1), .unset, .unset, .unset, .unset] [(.int (8 : Int32)), (.ref b1), (.ref b1)])) rfl (hb hby at_58)
  obtain ⟨c76, Arc76, qc76, Sc76, Mc76, Hc76, Gc76⟩ := id V72
  have hinc76 : ¬ ((8 : Int32) < 0 ∨ c76.slots.size ≤ ((8 : Int32)).toNatClampNeg) := inb_of Sc76 ⟨by decide, by decide⟩
  have fa77 : Exa Z h72 t8 "com/example/hewgen/hewgen/model/ShapeType" := (((((((((Ex8.ext E1).wr W30).wr W36).wr W42).wr W48).wr W54).wr W60).wr W66).wr W72)
  obtain ⟨T78, h78, X78, e78, W78, st78⟩ := stR X75 hx hZ e75 Arc76 (j := (8 : Int32)) hinc76 rfl (Sto.ofV Arc76 qc76 O1 (Ins.self fa77)) (g := (mkF m 61 #[.val (.int p1), .unset, .unset, .unset, .unset] [(.ref t8), (.int (8 : Int32)), (.ref b1), (.ref b1)])) rfl rfl (hb hby at_61)
  have V78 : Arv Z h78 b1 k1 (.object "com/example/hewgen/hewgen/model/ShapeType") (23 : Int32) [(.ref t0), (.ref t1), (.ref t2), (.ref t3), (.ref t4), (.ref t5), (.ref t6), (.ref t7), (.ref t8), .null, .null, .null, .null, .null, .null, .null, .null, .null, .null, .null, .null, .null, .null] .null := Arv.set Arc76 qc76 Sc76 Mc76 Hc76 Gc76 rfl W78 8 rfl (Nat.le_of_ble_eq_true rfl)
  have Z79 : n0 ≤ h78.size := Nat.le_trans Z73 (Nat.le_of_eq W78.size.symm)
  have N78 := Fr.snoc X78 N72 gn_b1
  have fa80 : Sta Z h78 "com/example/hewgen/hewgen/model/ShapeType" "BIG_INTEGER" "Lcom/example/hewgen/hewgen/model/ShapeType;" (.ref t9) := ((((((((((S9.ext E1).wr W30).wr W36).wr W42).wr W48).wr W54).wr W60).wr W66).wr W72).wr W78)
  obtain ⟨T81, X81, e81, st81⟩ := getS2 X78 hx hZ hown (host := "") (Or.inl (ow hw 22 rfl)) Via.refl e78 fa80 (g := (mkF m 65 #[.val (.int p1), .unset, .unset, .unset, .unset] [(.int (9 : Int32)), (.ref b1), (.ref b1)])) rfl (hb hby at_65)
  obtain ⟨c82, Arc82, qc82, Sc82, Mc82, Hc82, Gc82⟩ := id V78
  have hinc82 : ¬ ((9 : Int32) < 0 ∨ c82.slots.size ≤ ((9 : Int32)).toNatClampNeg) := inb_of Sc82 ⟨by decide, by decide⟩
  have fa83 : Exa Z h78 t9 "com/example/hewgen/hewgen/model/ShapeType" := ((((((((((Ex9.ext E1).wr W30).wr W36).wr W42).wr W48).wr W54).wr W60).wr W66).wr W72).wr W78)
  obtain ⟨T84, h84, X84, e84, W84, st84⟩ := stR X81 hx hZ e81 Arc82 (j := (9 : Int32)) hinc82 rfl (Sto.ofV Arc82 qc82 O1 (Ins.self fa83)) (g := (mkF m 68 #[.val (.int p1), .unset, .unset, .unset, .unset] [(.ref t9), (.int (9 : Int32)), (.ref b1), (.ref b1)])) rfl rfl (hb hby at_68)
  have V84 : Arv Z h84 b1 k1 (.object "com/example/hewgen/hewgen/model/ShapeType") (23 : Int32) [(.ref t0), (.ref t1), (.ref t2), (.ref t3), (.ref t4), (.ref t5), (.ref t6), (.ref t7), (.ref t8), (.ref t9), .null, .null, .null, .null, .null, .null, .null, .null, .null, .null, .null, .null, .null] .null := Arv.set Arc82 qc82 Sc82 Mc82 Hc82 Gc82 rfl W84 9 rfl (Nat.le_of_ble_eq_true rfl)
  have Z85 : n0 ≤ h84.size := Nat.le_trans Z79 (Nat.le_of_eq W84.size.symm)
  have N84 := Fr.snoc X84 N78 gn_b1
  have fa86 : Sta Z h84 "com/example/hewgen/hewgen/model/ShapeType" "BIG_DECIMAL" "Lcom/example/hewgen/hewgen/model/ShapeType;" (.ref t10) := (((((((((((S10.ext E1).wr W30).wr W36).wr W42).wr W48).wr W54).wr W60).wr W66).wr W72).wr W78).wr W84)
  obtain ⟨T87, X87, e87, st87⟩ := getS2 X84 hx hZ hown (host := "") (Or.inl (ow hw 24 rfl)) Via.refl e84 fa86 (g := (mkF m 72 #[.val (.int p1), .unset, .unset, .unset, .unset] [(.int (10 : Int32)), (.ref b1), (.ref b1)])) rfl (hb hby at_72)
  obtain ⟨c88, Arc88, qc88, Sc88, Mc88, Hc88, Gc88⟩ := id V84
  have hinc88 : ¬ ((10 : Int32) < 0 ∨ c88.slots.size ≤ ((10 : Int32)).toNatClampNeg) := inb_of Sc88 ⟨by decide, by decide⟩
  have fa89 : Exa Z h84 t10 "com/example/hewgen/hewgen/model/ShapeType" := (((((((((((Ex10.ext E1).wr W30).wr W36).wr W42).wr W48).wr W54).wr W60).wr W66).wr W72).wr W78).wr W84)
  obtain ⟨T90, h90, X90, e90, W90, st90⟩ := stR X87 hx hZ e87 Arc88 (j := (10 : Int32)) hinc88 rfl (Sto.ofV Arc88 qc88 O1 (Ins.self fa89)) (g := (mkF m 75 #[.val (.int p1), .unset, .unset, .unset, .unset] [(.ref t10), (.int (10 : Int32)), (.ref b1), (.ref b1)])) rfl rfl (hb hby at_75)
  have V90 : Arv Z h90 b1 k1 (.object "com/example/hewgen/hewgen/model/ShapeType") (23 : Int32) [(.ref t0), (.ref t1), (.ref t2), (.ref t3), (.ref t4), (.ref t5), (.ref t6), (.ref t7), (.ref t8), (.ref t9), (.ref t10), .null, .null, .null, .null, .null, .null, .null, .null, .null, .null, .null, .null] .null := Arv.set Arc88 qc88 Sc88 Mc88 Hc88 Gc88 rfl W90 10 rfl (Nat.le_of_ble_eq_true rfl)
  have Z91 : n0 ≤ h90.size := Nat.le_trans Z85 (Nat.le_of_eq W90.size.symm)
  have N90 := Fr.snoc X90 N84 gn_b1
  have fa92 : Sta Z h90 "com/example/hewgen/hewgen/model/ShapeType" "TIMESTAMP" "Lcom/example/hewgen/hewgen/model/ShapeType;" (.ref t11) := ((((((((((((S11.ext E1).wr W30).wr W36).wr W42).wr W48).wr W54).wr W60).wr W66).wr W72).wr W78).wr W84).wr W90)
  obtain ⟨T93, X93, e93, st93⟩ := getS2 X90 hx hZ hown (host := "") (Or.inl (ow hw 26 rfl)) Via.refl e90 fa92 (g := (mkF m 79 #[.val (.int p1), .unset, .unset, .unset, .unset] [(.int (11 : Int32)), (.ref b1), (.ref b1)])) rfl (hb hby at_79)
  obtain ⟨c94, Arc94, qc94, Sc94, Mc94, Hc94, Gc94⟩ := id V90
  have hinc94 : ¬ ((11 : Int32) < 0 ∨ c94.slots.size ≤ ((11 : Int32)).toNatClampNeg) := inb_of Sc94 ⟨by decide, by decide⟩
  have fa95 : Exa Z h90 t11 "com/example/hewgen/hewgen/model/ShapeType" := ((((((((((((Ex11.ext E1).wr W30).wr W36).wr W42).wr W48).wr W54).wr W60).wr W66).wr W72).wr W78).wr W84).wr W90)
  obtain ⟨T96, h96, X96, e96, W96, st96⟩ := stR X93 hx hZ e93 Arc94 (j := (11 : Int32)) hinc94 rfl (Sto.ofV Arc94 qc94 O1 (Ins.self fa95)) (g := (mkF m 82 #[.val (.int p1), .unset, .unset, .unset, .unset] [(.ref t11), (.int (11 : Int32)), (.ref b1), (.ref b1)])) rfl rfl (hb hby at_82)
  have V96 : Arv Z h96 b1 k1 (.object "com/example/hewgen/hewgen/model/ShapeType") (23 : Int32) [(.ref t0), (.ref t1), (.ref t2), (.ref t3), (.ref t4), (.ref t5), (.ref t6), (.ref t7), (.ref t8), (.ref t9), (.ref t10), (.ref t11), .null, .null, .null, .null, .null, .null, .null, .null, .null, .null, .null] .null := Arv.set Arc94 qc94 Sc94 Mc94 Hc94 Gc94 rfl W96 11 rfl (Nat.le_of_ble_eq_true rfl)
  have Z97 : n0 ≤ h96.size := Nat.le_trans Z91 (Nat.le_of_eq W96.size.symm)
  have N96 := Fr.snoc X96 N90 gn_b1
  have fa98 : Sta Z h96 "com/example/hewgen/hewgen/model/ShapeType" "DOCUMENT" "Lcom/example/hewgen/hewgen/model/ShapeType;" (.ref t12) := (((((((((((((S12.ext E1).wr W30).wr W36).wr W42).wr W48).wr W54).wr W60).wr W66).wr W72).wr W78).wr W84).wr W90).wr W96)
  obtain ⟨T99, X99, e99, st99⟩ := getS2 X96 hx hZ hown (host := "") (Or.inl (ow hw 28 rfl)) Via.refl e96 fa98 (g := (mkF m 86 #[.val (.int p1), .unset, .unset, .unset, .unset] [(.int (12 : Int32)), (.ref b1), (.ref b1)])) rfl (hb hby at_86)
  obtain ⟨c100, Arc100, qc100, Sc100, Mc100, Hc100, Gc100⟩ := id V96
  have hinc100 : ¬ ((12 : Int32) < 0 ∨ c100.slots.size ≤ ((12 : Int32)).toNatClampNeg) := inb_of Sc100 ⟨by decide, by decide⟩
  have fa101 : Exa Z h96 t12 "com/example/hewgen/hewgen/model/ShapeType" := (((((((((((((Ex12.ext E1).wr W30).wr W36).wr W42).wr W48).wr W54).wr W60).wr W66).wr W72).wr W78).wr W84).wr W90).wr W96)
  obtain ⟨T102, h102, X102, e102, W102, st102⟩ := stR X99 hx hZ e99 Arc100 (j := (12 : Int32)) hinc100 rfl (Sto.ofV Arc100 qc100 O1 (Ins.self fa101)) (g := (mkF m 89 #[.val (.int p1), .unset, .unset, .unset, .unset] [(.ref t12), (.int (12 : Int32)), (.ref b1), (.ref b1)])) rfl rfl (hb hby at_89)
  have V102 : Arv Z h102 b1 k1 (.object "com/example/hewgen/hewgen/model/ShapeType") (23 : Int32) [(.ref t0), (.ref t1), (.ref t2), (.ref t3), (.ref t4), (.ref t5), (.ref t6), (.ref t7), (.ref t8), (.ref t9), (.ref t10), (.ref t11), (.ref t12), .null, .null, .null, .null, .null, .null, .null, .null, .null, .null] .null := Arv.set Arc100 qc100 Sc100 Mc100 Hc100 Gc100 rfl W102 12 rfl (Nat.le_of_ble_eq_true rfl)
  have Z103 : n0 ≤ h102.size := Nat.le_trans Z97 (Nat.le_of_eq W102.size.symm)
  have N102 := Fr.snoc X102 N96 gn_b1
  have fa104 : Sta Z h102 "com/example/hewgen/hewgen/model/ShapeType" "ENUM" "Lcom/example/hewgen/hewgen/model/ShapeType;" (.ref t13) := ((((((((((((((S13.ext E1).wr W30).wr W36).wr W42).wr W48).wr W54).wr W60).wr W66).wr W72).wr W78).wr W84).wr W90).wr W96).wr W102)
  obtain ⟨T105, X105, e105, st105⟩ := getS2 X102 hx hZ hown (host := "") (Or.inl (ow hw 30 rfl)) Via.refl e102 fa104 (g := (mkF m 93 #[.val (.int p1), .unset, .unset, .unset, .unset] [(.int (13 : Int32)), (.ref b1), (.ref b1)])) rfl (hb hby at_93)
  obtain ⟨c106, Arc106, qc106, Sc106, Mc106, Hc106, Gc106⟩ := id V102
  have hinc106 : ¬ ((13 : Int32) < 0 ∨ c106.slots.size ≤ ((13 : Int32)).toNatClampNeg) := inb_of Sc106 ⟨by decide, by decide⟩
  have fa107 : Exa Z h102 t13 "com/example/hewgen/hewgen/model/ShapeType" := ((((((((((((((Ex13.ext E1).wr W30).wr W36).wr W42).wr W48).wr W54).wr W60).wr W66).wr W72).wr W78).wr W84).wr W90).wr W96).wr W102)
  obtain ⟨T108, h108, X108, e108, W108, st108⟩ := stR X105 hx hZ e105 Arc106 (j := (13 : Int32)) hinc106 rfl (Sto.ofV Arc106 qc106 O1 (Ins.self fa107)) (g := (mkF m 96 #[.val (.int p1), .unset, .unset, .unset, .unset] [(.ref t13), (.int (13 : Int32)), (.ref b1), (.ref b1)])) rfl rfl (hb hby at_96)
  have V108 : Arv Z h108 b1 k1 (.object "com/example/hewgen/hewgen/model/ShapeType") (23 : Int32) [(.ref t0), (.ref t1), (.ref t2), (.ref t3), (.ref t4), (.ref t5), (.ref t6), (.ref t7), (.ref t8), (.ref t9), (.ref t10), (.ref t11), (.ref t12), (.ref t13), .null, .null, .null, .null, .null, .null, .null, .null, .null] .null := Arv.set Arc106 qc106 Sc106 Mc106 Hc106 Gc106 rfl W108 13 rfl (Nat.le_of_ble_eq_true rfl)
  have Z109 : n0 ≤ h108.size := Nat.le_trans Z103 (Nat.le_of_eq W108.size.symm)
  have N108 := Fr.snoc X108 N102 gn_b1
  have fa110 : Sta Z h108 "com/example/hewgen/hewgen/model/ShapeType" "INT_ENUM" "Lcom/example/hewgen/hewgen/model/ShapeType;" (.ref t14) := (((((((((((((((S14.ext E1).wr W30).wr W36).wr W42).wr W48).wr W54).wr W60).wr W66).wr W72).wr W78).wr W84).wr W90).wr W96).wr W102).wr W108)
  obtain ⟨T111, X111, e111, st111⟩ := getS2 X108 hx hZ hown (host := "") (Or.inl (ow hw 32 rfl)) Via.refl e108 fa110 (g := (mkF m 100 #[.val (.int p1), .unset, .unset, .unset, .unset] [(.int (14 : Int32)), (.ref b1), (.ref b1)])) rfl (hb hby at_100)
  obtain ⟨c112, Arc112, qc112, Sc112, Mc112, Hc112, Gc112⟩ := id V108
  have hinc112 : ¬ ((14 : Int32) < 0 ∨ c112.slots.size ≤ ((14 : Int32)).toNatClampNeg) := inb_of Sc112 ⟨by decide, by decide⟩
  have fa113 : Exa Z h108 t14 "com/example/hewgen/hewgen/model/ShapeType" := (((((((((((((((Ex14.ext E1).wr W30).wr W36).wr W42).wr W48).wr W54).wr W60).wr W66).wr W72).wr W78).wr W84).wr W90).wr W96).wr W102).wr W108)
  obtain ⟨T114, h114, X114, e114, W114, st114⟩ := stR X111 hx hZ e111 Arc112 (j := (14 : Int32)) hinc112 rfl (Sto.ofV Arc112 qc112 O1 (Ins.self fa113)) (g := (mkF m 103 #[.val (.int p1), .unset, .unset, .unset, .unset] [(.ref t14), (.int (14 : Int32)), (.ref b1), (.ref b1)])) rfl rfl (hb hby at_103)
  have V114 : Arv Z h114 b1 k1 (.object "com/example/hewgen/hewgen/model/ShapeType") (23 : Int32) [(.ref t0), (.ref t1), (.ref t2), (.ref t3), (.ref t4), (.ref t5), (.ref t6), (.ref t7), (.ref t8), (.ref t9), (.ref t10), (.ref t11), (.ref t12), (.ref t13), (.ref t14), .null, .null, .null, .null, .null, .null, .null, .null] .null := Arv.set Arc112 qc112 Sc112 Mc112 Hc112 Gc112 rfl W114 14 rfl (Nat.le_of_ble_eq_true rfl)
  have Z115 : n0 ≤ h114.size := Nat.le_trans Z109 (Nat.le_of_eq W114.size.symm)
  have N114 := Fr.snoc X114 N108 gn_b1
  have fa116 : Sta Z h114 "com/example/hewgen/hewgen/model/ShapeType" "LIST" "Lcom/example/hewgen/hewgen/model/ShapeType;" (.ref t15) := ((((((((((((((((S15.ext E1).wr W30).wr W36).wr W42).wr W48).wr W54).wr W60).wr W66).wr W72).wr W78).wr W84).wr W90).wr W96).wr W102).wr W108).wr W114)
  obtain ⟨T117, X117, e117, st117⟩ := getS2 X114 hx hZ hown (host := "") (Or.inl (ow hw 34 rfl)) Via.refl e114 fa116 (g := (mkF m 107 #[.val (.int p1), .unset, .unset, .unset, .unset] [(.int (15 : Int32)), (.ref b1), (.ref b1)])) rfl (hb hby at_107)
  obtain ⟨c118, Arc118, qc118, Sc118, Mc118, Hc118, Gc118⟩ := id V114
  have hinc118 : ¬ ((15 : Int32) < 0 ∨ c118.slots.size ≤ ((15 : Int32)).toNatClampNeg) := inb_of Sc118 ⟨by decide, by decide⟩
  have fa119 : Exa Z h114 t15 "com/example/hewgen/hewgen/model/ShapeType" := ((((((((((((((((Ex15.ext E1).wr W30).wr W36).wr W42).wr W48).wr W54).wr W60).wr W66).wr W72).wr W78).wr W84).wr W90).wr W96).wr W102).wr W108).wr W114)
  obtain ⟨T120, h120, X120, e120, W120, st120⟩ := stR X117 hx hZ e117 Arc118 (j := (15 : Int32)) hinc118 rfl (Sto.ofV Arc118 qc118 O1 (Ins.self fa119)) (g := (mkF m 110 #[.val (.int p1), .unset, .unset, .unset, .unset] [(.ref t15), (.int (15 : Int32)), (.ref b1), (.ref b1)])) rfl rfl (hb hby at_110)
  have V120 : Arv Z h120 b1 k1 (.object "com/example/hewgen/hewgen/model/ShapeType") (23 : Int32) [(.ref t0), (.ref t1), (.ref t2), (.ref t3), (.ref t4), (.ref t5), (.ref t6), (.ref t7), (.ref t8), (.ref t9), (.ref t10), (.ref t11), (.ref t12), (.ref t13), (.ref t14), (.ref t15), .null, .null, .null, .null, .null, .null, .null] .null := Arv.set Arc118 qc118 Sc118 Mc118 Hc118 Gc118 rfl W120 15 rfl (Nat.le_of_ble_eq_true rfl)
  have Z121 : n0 ≤ h120.size := Nat.le_trans Z115 (Nat.le_of_eq W120.size.symm)
  have N120 := Fr.snoc X120 N114 gn_b1
  have fa122 : Sta Z h120 "com/example/hewgen/hewgen/model/ShapeType" "MAP" "Lcom/example/hewgen/hewgen/model/ShapeType;" (.ref t16) := (((((((((((((((((S16.ext E1).wr W30).wr W36).wr W42).wr W48).wr W54).wr W60).wr W66).wr W72).wr W78).wr W84).wr W90).wr W96).wr W102).wr W108).wr W114).wr W120)
  obtain ⟨T123, X123, e123, st123⟩ := getS2 X120 hx hZ hown (host := "") (Or.inl (ow hw 36 rfl)) Via.refl e120 fa122 (g := (mkF m 114 #[.val (.int p1), .unset, .unset, .unset, .unset] [(.int (16 : Int32)), (.ref b1), (.ref b1)])) rfl (hb hby at_114)
  obtain ⟨c124, Arc124, qc124, Sc124, Mc124, Hc124, Gc124⟩ := id V120
  have hinc124 : ¬ ((16 : Int32) < 0 ∨ c124.slots.size ≤ ((16 : Int32)).toNatClampNeg) := inb_of Sc124 ⟨by decide, by decide⟩
  have fa125 : Exa Z h120 t16 "com/example/hewgen/hewgen/model/ShapeType" := (((((((((((((((((Ex16.ext E1).wr W30).wr W36).wr W42).wr W48).wr W54).wr W60).wr W66).wr W72).wr W78).wr W84).wr W90).wr W96).wr W102).wr W108).wr W114).wr W120)
  obtain ⟨T126, h126, X126, e126, W126, st126⟩ := stR X123 hx hZ e123 Arc124 (j := (16 : Int32)) hinc124 rfl (Sto.ofV Arc124 qc124 O1 (Ins.self fa125)) (g := (mkF m 117 #[.val (.int p1), .unset, .unset, .unset, .unset] [(.ref t16), (.int (16 : Int32)), (.ref b1), (.ref b1)])) rfl rfl (hb hby at_117)
  have V126 : Arv Z h126 b1 k1 (.object "com/example/hewgen/hewgen/model/ShapeType") (23 : Int32) [(.ref t0), (.ref t1), (.ref t2), (.ref t3), (.ref t4), (.ref t5), (.ref t6), (.ref t7), (.ref t8), (.ref t9), (.ref t10), (.ref t11), (.ref t12), (.ref t13), (.ref t14), (.ref t15), (.ref t16), .null, .null, .null, .null, .null, .null] .null := Arv.set Arc124 qc124 Sc124 Mc124 Hc124 Gc124 rfl W126 16 rfl (Nat.le_of_ble_eq_true rfl)
  have Z127 : n0 ≤ h126.size := Nat.le_trans Z121 (Nat.le_of_eq W126.size.symm)
  have N126 := Fr.snoc X126 N120 gn_b1
  have fa128 : Sta Z h126 "com/example/hewgen/hewgen/model/ShapeType" "STRUCTURE" "Lcom/example/hewgen/hewgen/model/ShapeType;" (.ref t17) := ((((((((((((((((((S17.ext E1).wr W30).wr W36).wr W42).wr W48).wr W54).wr W60).wr W66).wr W72).wr W78).wr W84).wr W90).wr W96).wr W102).wr W108).wr W114).wr W120).wr W126)
  obtain ⟨T129, X129, e129, st129⟩ := getS2 X126 hx hZ hown (host := "") (Or.inl (ow hw 38 rfl)) Via.refl e126 fa128 (g := (mkF m 121 #[.val (.int p1), .unset, .unset, .unset, .unset] [(.int (17 : Int32)), (.ref b1), (.ref b1)])) rfl (hb hby at_121)
  obtain ⟨c130, Arc130, qc130, Sc130, Mc130, Hc130, Gc130⟩ := id V126
  have hinc130 : ¬ ((17 : Int32) < 0 ∨ c130.slots.size ≤ ((17 : Int32)).toNatClampNeg) := inb_of Sc130 ⟨by decide, by decide⟩
  have fa131 : Exa Z h126 t17 "com/example/hewgen/hewgen/model/ShapeType" := ((((((((((((((((((Ex17.ext E1).wr W30).wr W36).wr W42).wr W48).wr W54).wr W60).wr W66).wr W72).wr W78).wr W84).wr W90).wr W96).wr W102).wr W108).wr W114).wr W120).wr W126)
  obtain ⟨T132, h132, X132, e132, W132, st132⟩ := stR X129 hx hZ e129 Arc130 (j := (17 : Int32)) hinc130 rfl (Sto.ofV Arc130 qc130 O1 (Ins.self fa131)) (g := (mkF m 124 #[.val (.int p1), .unset, .unset, .unset, .unset] [(.ref t17), (.int (17 : Int32)), (.ref b1), (.ref b1)])) rfl rfl (hb hby at_124)
  have V132 : Arv Z h132 b1 k1 (.object "com/example/hewgen/hewgen/model/ShapeType") (23 : Int32) [(.ref t0), (.ref t1), (.ref t2), (.ref t3), (.ref t4), (.ref t5), (.ref t6), (.ref t7), (.ref t8), (.ref t9), (.ref t10), (.ref t11), (.ref t12), (.ref t13), (.ref t14), (.ref t15), (.ref t16), (.ref t17), .null, .null, .null, .null, .null] .null := Arv.set Arc130 qc130 Sc130 Mc130 Hc130 Gc130 rfl W132 17 rfl (Nat.le_of_ble_eq_true rfl)
  have Z133 : n0 ≤ h132.size := Nat.le_trans Z127 (Nat.le_of_eq W132.size.symm)
  have N132 := Fr.snoc X132 N126 gn_b1
  have fa134 : Sta Z h132 "com/example/hewgen/hewgen/model/ShapeType" "UNION" "Lcom/example/hewgen/hewgen/model/ShapeType;" (.ref t18) := (((((((((((((((((((S18.ext E1).wr W30).wr W36).wr W42).wr W48).wr W54).wr W60).wr W66).wr W72).wr W78).wr W84).wr W90).wr W96).wr W102).wr W108).wr W114).wr W120).wr W126).wr W132)
  obtain ⟨T135, X135, e135, st135⟩ := getS2 X132 hx hZ hown (host := "") (Or.inl (ow hw 40 rfl)) Via.refl e132 fa134 (g := (mkF m 128 #[.val (.int p1), .unset, .unset, .unset, .unset] [(.int (18 : Int32)), (.ref b1), (.ref b1)])) rfl (hb hby at_128)
  obtain ⟨c136, Arc136, qc136, Sc136, Mc136, Hc136, Gc136⟩ := id V132
  have hinc136 : ¬ ((18 : Int32) < 0 ∨ c136.slots.size ≤ ((18 : Int32)).toNatClampNeg) := inb_of Sc136 ⟨by decide, by decide⟩
  have fa137 : Exa Z h132 t18 "com/example/hewgen/hewgen/model/ShapeType" := (((((((((((((((((((Ex18.ext E1).wr W30).wr W36).wr W42).wr W48).wr W54).wr W60).wr W66).wr W72).wr W78).wr W84).wr W90).wr W96).wr W102).wr W108).wr W114).wr W120).wr W126).wr W132)
  obtain ⟨T138, h138, X138, e138, W138, st138⟩ := stR X135 hx hZ e135 Arc136 (j := (18 : Int32)) hinc136 rfl (Sto.ofV Arc136 qc136 O1 (Ins.self fa137)) (g := (mkF m 131 #[.val (.int p1), .unset, .unset, .unset, .unset] [(.ref t18), (.int (18 : Int32)), (.ref b1), (.ref b1)])) rfl rfl (hb hby at_131)
  have V138 : Arv Z h138 b1 k1 (.object "com/example/hewgen/hewgen/model/ShapeType") (23 : Int32) [(.ref t0), (.ref t1), (.ref t2), (.ref t3), (.ref t4), (.ref t5), (.ref t6), (.ref t7), (.ref t8), (.ref t9), (.ref t10), (.ref t11), (.ref t12), (.ref t13), (.ref t14), (.ref t15), (.ref t16), (.ref t17), (.ref t18), .null, .null, .null, .null] .null := Arv.set Arc136 qc136 Sc136 Mc136 Hc136 Gc136 rfl W138 18 rfl (Nat.le_of_ble_eq_true rfl)
  have Z139 : n0 ≤ h138.size := Nat.le_trans Z133 (Nat.le_of_eq W138.size.symm)
  have N138 := Fr.snoc X138 N132 gn_b1
  have fa140 : Sta Z h138 "com/example/hewgen/hewgen/model/ShapeType" "SERVICE" "Lcom/example/hewgen/hewgen/model/ShapeType;" (.ref t19) := ((((((((((((((((((((S19.ext E1).wr W30).wr W36).wr W42).wr W48).wr W54).wr W60).wr W66).wr W72).wr W78).wr W84).wr W90).wr W96).wr W102).wr W108).wr W114).wr W120).wr W126).wr W132).wr W138)
  obtain ⟨T141, X141, e141, st141⟩ := getS2 X138 hx hZ hown (host := "") (Or.inl (ow hw 42 rfl)) Via.refl e138 fa140 (g := (mkF m 135 #[.val (.int p1), .unset, .unset, .unset, .unset] [(.int (19 : Int32)), (.ref b1), (.ref b1)])) rfl (hb hby at_135)
  obtain ⟨c142, Arc142, qc142, Sc142, Mc142, Hc142, Gc142⟩ := id V138
  have hinc142 : ¬ ((19 : Int32) < 0 ∨ c142.slots.size ≤ ((19 : Int32)).toNatClampNeg) := inb_of Sc142 ⟨by decide, by decide⟩
  have fa143 : Exa Z h138 t19 "com/example/hewgen/hewgen/model/ShapeType" := ((((((((((((((((((((Ex19.ext E1).wr W30).wr W36).wr W42).wr W48).wr W54).wr W60).wr W66).wr W72).wr W78).wr W84).wr W90).wr W96).wr W102).wr W108).wr W114).wr W120).wr W126).wr W132).wr W138)
  obtain ⟨T144, h144, X144, e144, W144, st144⟩ := stR X141 hx hZ e141 Arc142 (j := (19 : Int32)) hinc142 rfl (Sto.ofV Arc142 qc142 O1 (Ins.self fa143)) (g := (mkF m 138 #[.val (.int p1), .unset, .unset, .unset, .unset] [(.ref t19), (.int (19 : Int32)), (.ref b1), (.ref b1)])) rfl rfl (hb hby at_138)
  have V144 : Arv Z h144 b1 k1 (.object "com/example/hewgen/hewgen/model/ShapeType") (23 : Int32) [(.ref t0), (.ref t1), (.ref t2), (.ref t3), (.ref t4), (.ref t5), (.ref t6), (.ref t7), (.ref t8), (.ref t9), (.ref t10), (.ref t11), (.ref t12), (.ref t13), (.ref t14), (.ref t15), (.ref t16), (.ref t17), (.ref t18), (.ref t19), .null, .null, .null] .null := Arv.set Arc142 qc142 Sc142 Mc142 Hc142 Gc142 rfl W144 19 rfl (Nat.le_of_ble_eq_true rfl)
  have Z145 : n0 ≤ h144.size := Nat.le_trans Z139 (Nat.le_of_eq W144.size.symm)
  have N144 := Fr.snoc X144 N138 gn_b1
  have fa146 : Sta Z h144 "com/example/hewgen/hewgen/model/ShapeType" "OPERATION" "Lcom/example/hewgen/hewgen/model/ShapeType;" (.ref t20) := (((((((((((((((((((((S20.ext E1).wr W30).wr W36).wr W42).wr W48).wr W54).wr W60).wr W66).wr W72).wr W78).wr W84).wr W90).wr W96).wr W102).wr W108).wr W114).wr W120).wr W126).wr W132).wr W138).wr W144)
  obtain ⟨T147, X147, e147, st147⟩ := getS2 X144 hx hZ hown (host := "") (Or.inl (ow hw 44 rfl)) Via.refl e144 fa146 (g := (mkF m 142 #[.val (.int p1), .unset, .unset, .unset, .unset] [(.int (20 : Int32)), (.ref b1), (.ref b1)])) rfl (hb hby at_142)
  obtain ⟨c148, Arc148, qc148, Sc148, Mc148, Hc148, Gc148⟩ := id V144
  have hinc148 : ¬ ((20 : Int32) < 0 ∨ c148.slots.size ≤ ((20 : Int32)).toNatClampNeg) := inb_of Sc148 ⟨by decide, by decide⟩
  have fa149 : Exa Z h144 t20 "com/example/hewgen/hewgen/model/ShapeType" := (((((((((((((((((((((Ex20.ext E1).wr W30).wr W36).wr W42).wr W48).wr W54).wr W60).wr W66).wr W72).wr W78).wr W84).wr W90).wr W96).wr W102).wr W108).wr W114).wr W120).wr W126).wr W132).wr W138).wr W144)
  obtain ⟨T150, h150, X150, e150, W150, st150⟩ := stR X147 hx hZ e147 Arc148 (j := (20 : Int32)) hinc148 rfl (Sto.ofV Arc148 qc148 O1 (Ins.self fa149)) (g := (mkF m 145 #[.val (.int p1), .unset, .unset, .unset, .unset] [(.ref t20), (.int (20 : Int32)), (.ref b1), (.ref b1)])) rfl rfl (hb hby at_145)
  have V150 : Arv Z h150 b1 k1 (.object "com/example/hewgen/hewgen/model/ShapeType") (23 : Int32) [(.ref t0), (.ref t1), (.ref t2), (.ref t3), (.ref t4), (.ref t5), (.ref t6), (.ref t7), (.ref t8), (.ref t9), (.ref t10), (.ref t11), (.ref t12), (.ref t13), (.ref t14), (.ref t15), (.ref t16), (.ref t17), (.ref t18), (.ref t19), (.ref t20), .null, .null] .null := Arv.set Arc148 qc148 Sc148 Mc148 Hc148 Gc148 rfl W150 20 rfl (Nat.le_of_ble_eq_true rfl)
  have Z151 : n0 ≤ h150.size := Nat.le_trans Z145 (Nat.le_of_eq W150.size.symm)
  have N150 := Fr.snoc X150 N144 gn_b1
  have fa152 : Sta Z h150 "com/example/hewgen/hewgen/model/ShapeType" "RESOURCE" "Lcom/example/hewgen/hewgen/model/ShapeType;" (.ref t21) := ((((((((((((((((((((((S21.ext E1).wr W30).wr W36).wr W42).wr W48).wr W54).wr W60).wr W66).wr W72).wr W78).wr W84).wr W90).wr W96).wr W102).wr W108).wr W114).wr W120).wr W126).wr W132).wr W138).wr W144).wr W150)
  obtain ⟨T153, X153, e153, st153⟩ := getS2 X150 hx hZ hown (host := "") (Or.inl (ow hw 46 rfl)) Via.refl e150 fa152 (g := (mkF m 149 #[.val (.int p1), .unset, .unset, .unset, .unset] [(.int (21 : Int32)), (.ref b1), (.ref b1)])) rfl (hb hby at_149)
  obtain ⟨c154, Arc154, qc154, Sc154, Mc154, Hc154, Gc154⟩ := id V150
  have hinc154 : ¬ ((21 : Int32) < 0 ∨ c154.slots.size ≤ ((21 : Int32)).toNatClampNeg) := inb_of Sc154 ⟨by decide, by decide⟩
  have fa155 : Exa Z h150 t21 "com/example/hewgen/hewgen/model/ShapeType" := ((((((((((((((((((((((Ex21.ext E1).wr W30).wr W36).wr W42).wr W48).wr W54).wr W60).wr W66).wr W72).wr W78).wr W84).wr W90).wr W96).wr W102).wr W108).wr W114).wr W120).wr W126).wr W132).wr W138).wr W144).wr W150)
  obtain ⟨T156, h156, X156, e156, W156, st156⟩ := stR X153 hx hZ e153 Arc154 (j := (21 : Int32)) hinc154 rfl (Sto.ofV Arc154 qc154 O1 (Ins.self fa155)) (g := (mkF m 152 #[.val (.int p1), .unset, .unset, .unset, .unset] [(.ref t21), (.int (21 : Int32)), (.ref b1), (.ref b1)])) rfl rfl (hb hby at_152)
  have V156 : Arv Z h156 b1 k1 (.object "com/example/hewgen/hewgen/model/ShapeType") (23 : Int32) [(.ref t0), (.ref t1), (.ref t2), (.ref t3), (.ref t4), (.ref t5), (.ref t6), (.ref t7), (.ref t8), (.ref t9), (.ref t10), (.ref t11), (.ref t12), (.ref t13), (.ref t14), (.ref t15), (.ref t16), (.ref t17), (.ref t18), (.ref t19), (.ref t20), (.ref t21), .null] .null := Arv.set Arc154 qc154 Sc154 Mc154 Hc154 Gc154 rfl W156 21 rfl (Nat.le_of_ble_eq_true rfl)
  have Z157 : n0 ≤ h156.size := Nat.le_trans Z151 (Nat.le_of_eq W156.size.symm)
  have N156 := Fr.snoc X156 N150 gn_b1
  have fa158 : Sta Z h156 "com/example/hewgen/hewgen/model/ShapeType" "MEMBER" "Lcom/example/hewgen/hewgen/model/ShapeType;" (.ref t22) := (((((((((((((((((((((((S22.ext E1).wr W30).wr W36).wr W42).wr W48).wr W54).wr W60).wr W66).wr W72).wr W78).wr W84).wr W90).wr W96).wr W102).wr W108).wr W114).wr W120).wr W126).wr W132).wr W138).wr W144).wr W150).wr W156)
  obtain ⟨T159, X159, e159, st159⟩ := getS2 X156 hx hZ hown (host := "") (Or.inl (ow hw 48 rfl)) Via.refl e156 fa158 (g := (mkF m 156 #[.val (.int p1), .unset, .unset, .unset, .unset] [(.int (22 : Int32)), (.ref b1), (.ref b1)])) rfl (hb hby at_156)
  obtain ⟨c160, Arc160, qc160, Sc160, Mc160, Hc160, Gc160⟩ := id V156
  have hinc160 : ¬ ((22 : Int32) < 0 ∨ c160.slots.size ≤ ((22 : Int32)).toNatClampNeg) := inb_of Sc160 ⟨by decide, by decide⟩
  have fa161 : Exa Z h156 t22 "com/example/hewgen/hewgen/model/ShapeType" := (((((((((((((((((((((((Ex22.ext E1).wr W30).wr W36).wr W42).wr W48).wr W54).wr W60).wr W66).wr W72).wr W78).wr W84).wr W90).wr W96).wr W102).wr W108).wr W114).wr W120).wr W126).wr W132).wr W138).wr W144).wr W150).wr W156)
  obtain ⟨T162, h162, X162, e162, W162, st162⟩ := stR X159 hx hZ e159 Arc160 (j := (22 : Int32)) hinc160 rfl (Sto.ofV Arc160 qc160 O1 (Ins.self fa161)) (g := (mkF m 159 #[.val (.int p1), .unset, .unset, .unset, .unset] [(.ref t22), (.int (22 : Int32)), (.ref b1), (.ref b1)])) rfl rfl (hb hby at_159)
  have V162 : Arv Z h162 b1 k1 (.object "com/example/hewgen/hewgen/model/ShapeType") (23 : Int32) [(.ref t0), (.ref t1), (.ref t2), (.ref t3), (.ref t4), (.ref t5), (.ref t6), (.ref t7), (.ref t8), (.ref t9), (.ref t10), (.ref t11), (.ref t12), (.ref t13), (.ref t14), (.ref t15), (.ref t16), (.ref t17), (.ref t18), (.ref t19), (.ref t20), (.ref t21), (.ref t22)] .null := Arv.set Arc160 qc160 Sc160 Mc160 Hc160 Gc160 rfl W162 22 rfl (Nat.le_of_ble_eq_true rfl)
  have Z163 : n0 ≤ h162.size := Nat.le_trans Z157 (Nat.le_of_eq W162.size.symm)
  have N162 := Fr.snoc X162 N156 gn_b1
  have fa164 : Sta Z h162 "com/example/hewgen/hewgen/model/ShapeType" "STRUCTURE" "Lcom/example/hewgen/hewgen/model/ShapeType;" (.ref t17) := ((((((fa128.wr W132).wr W138).wr W144).wr W150).wr W156).wr W162)
  have fa165 : Sta Z h162 "com/example/hewgen/hewgen/model/ShapeType" "UNION" "Lcom/example/hewgen/hewgen/model/ShapeType;" (.ref t18) := (((((fa134.wr W138).wr W144).wr W150).wr W156).wr W162)
  have fa166 : Sta Z h162 "com/example/hewgen/hewgen/model/ShapeType" "ENUM" "Lcom/example/hewgen/hewgen/model/ShapeType;" (.ref t13) := ((((((((((fa104.wr W108).wr W114).wr W120).wr W126).wr W132).wr W138).wr W144).wr W150).wr W156).wr W162)
  have fa167 : Sta Z h162 "com/example/hewgen/hewgen/model/ShapeType" "INT_ENUM" "Lcom/example/hewgen/hewgen/model/ShapeType;" (.ref t14) := (((((((((fa110.wr W114).wr W120).wr W126).wr W132).wr W138).wr W144).wr W150).wr W156).wr W162)
  have pre168 : ∀ tZ, Steps p.tables e below (T162.setTop (mkF m 169 #[.val (.int p1), .val (.ref b1), .val (.int ((p1 &&& (2147483647 : Int32)) % (23 : Int32))), .unset, .unset] [])) tZ → Steps p.tables e below (s₁.setTop (entryFrame m #[(.int p1)] maxLocals)) tZ := fun tZ kZ => pre0 tZ (by
    show Steps p.tables e below (s₁.setTop (mkF m 0 #[.val (.int p1), .unset, .unset, .unset, .unset] [])) _
    refine XS.bipush X0.here hx rfl (hb hby at_0) ?_
    show Steps p.tables e below (s₁.setTop (mkF m 2 #[.val (.int p1), .unset, .unset, .unset, .unset] [(.int (23 : Int32))])) _
    refine st1 _ ?_
    show Steps p.tables e below (T1.setTop (mkF m 5 #[.val (.int p1), .unset, .unset, .unset, .unset] [(.ref b1)])) _
    refine XS.dup X1.here hx rfl (hb hby at_5) rfl rfl ?_
    show Steps p.tables e below (T1.setTop (mkF m 6 #[.val (.int p1), .unset, .unset, .unset, .unset] [(.ref b1), (.ref b1)])) _
    refine XS.iconst X1.here hx rfl (hb hby at_6) ?_
    show Steps p.tables e below (T1.setTop (mkF m 7 #[.val (.int p1), .unset, .unset, .unset, .unset] [(.int (0 : Int32)), (.ref b1), (.ref b1)])) _
    refine st27 _ ?_
    show Steps p.tables e below (T27.setTop (mkF m 10 #[.val (.int p1), .unset, .unset, .unset, .unset] [(.ref t0), (.int (0 : Int32)), (.ref b1), (.ref b1)])) _
    refine st30 _ ?_
    show Steps p.tables e below (T30.setTop (mkF m 11 #[.val (.int p1), .unset, .unset, .unset, .unset] [(.ref b1)])) _
    refine XS.dup X30.here hx rfl (hb hby at_11) rfl rfl ?_
    show Steps p.tables e below (T30.setTop (mkF m 12 #[.val (.int p1), .unset, .unset, .unset, .unset] [(.ref b1), (.ref b1)])) _
    refine XS.iconst X30.here hx rfl (hb hby at_12) ?_
    show Steps p.tables e below (T30.setTop (mkF m 13 #[.val (.int p1), .unset, .unset, .unset, .unset] [(.int (1 : Int32)), (.ref b1), (.ref b1)])) _
    refine st33 _ ?_
    show Steps p.tables e below (T33.setTop (mkF m 16 #[.val (.int p1), .unset, .unset, .unset, .unset] [(.ref t1), (.int (1 : Int32)), (.ref b1), (.ref b1)])) _
    refine st36 _ ?_
    show Steps p.tables e below (T36.setTop (mkF m 17 #[.val (.int p1), .unset, .unset, .unset, .unset] [(.ref b1)])) _
    refine XS.dup X36.here hx rfl (hb hby at_17) rfl rfl ?_
    show Steps p.tables e below (T36.setTop (mkF m 18 #[.val (.int p1), .unset, .unset, .unset, .unset] [(.ref b1), (.ref b1)])) _
    refine XS.iconst X36.here hx rfl (hb hby at_18) ?_
    show Steps p.tables e below (T36.setTop (mkF m 19 #[.val (.int p1), .unset, .unset, .unset, .unset] [(.int (2 : Int32)), (.ref b1), (.ref b1)])) _
    refine st39 _ ?_
    show Steps p.tables e below (T39.setTop (mkF m 22 #[.val (.int p1), .unset, .unset, .unset, .unset] [(.ref t2), (.int (2 : Int32)), (.ref b1), (.ref b1)])) _
    refine st42 _ ?_
    show Steps p.tables e below (T42.setTop (mkF m 23 #[.val (.int p1), .unset, .unset, .unset, .unset] [(.ref b1)])) _
    refine XS.dup X42.here hx rfl (hb hby at_23) rfl rfl ?_
    show Steps p.tables e below (T42.setTop (mkF m 24 #[.val (.int p1), .unset, .unset, .unset, .unset] [(.ref b1), (.ref b1)])) _
    refine XS.iconst X42.here hx rfl (hb hby at_24) ?_
    show Steps p.tables e below (T42.setTop (mkF m 25 #[.val (.int p1), .unset, .unset, .unset, .unset] [(.int (3 : Int32)), (.ref b1), (.ref b1)])) _
    refine st45 _ ?_
    show Steps p.tables e below (T45.setTop (mkF m 28 #[.val (.int p1), .unset, .unset, .unset, .unset] [(.ref t3), (.int (3 : Int32)), (.ref b1), (.ref b1)])) _
    refine st48 _ ?_
    show Steps p.tables e below (T48.setTop (mkF m 29 #[.val (.int p1), .unset, .unset, .unset, .unset] [(.ref b1)])) _
    refine XS.dup X48.here hx rfl (hb hby at_29) rfl rfl ?_
    show Steps p.tables e below (T48.setTop (mkF m 30 #[.val (.int p1), .unset, .unset, .unset, .unset] [(.ref b1), (.ref b1)])) _
    refine XS.iconst X48.here hx rfl (hb hby at_30) ?_
    show Steps p.tables e below (T48.setTop (mkF m 31 #[.val (.int p1), .unset, .unset, .unset, .unset] [(.int (4 : Int32)), (.ref b1), (.ref b1)])) _
    refine st51 _ ?_
    show Steps p.tables e below (T51.setTop (mkF m 34 #[.val (.int p1), .unset, .unset, .unset, .unset] [(.ref t4), (.int (4 : Int32)), (.ref b1), (.ref b1)])) _
    refine st54 _ ?_
    show Steps p.tables e below (T54.setTop (mkF m 35 #[.val (.int p1), .unset, .unset, .unset, .unset] [(.ref b1)])) _
    refine XS.dup X54.here hx rfl (hb hby at_35) rfl rfl ?_
    show Steps p.tables e below (T54.setTop (mkF m 36 #[.val (.int p1), .unset, .unset, .unset, .unset] [(.ref b1), (.ref b1)])) _
    refine XS.iconst X54.here hx rfl (hb hby at_36) ?_
    show Steps p.tables e below (T54.setTop (mkF m 37 #[.val (.int p1), .unset, .unset, .unset, .unset] [(.int (5 : Int32)), (.ref b1), (.ref b1)])) _
    refine st57 _ ?_
    show Steps p.tables e below (T57.setTop (mkF m 40 #[.val (.int p1), .unset, .unset, .unset, .unset] [(.ref t5), (.int (5 : Int32)), (.ref b1), (.ref b1)])) _
    refine st60 _ ?_
    show Steps p.tables e below (T60.setTop (mkF m 41 #[.val (.int p1), .unset, .unset, .unset, .unset] [(.ref b1)])) _
    refine XS.dup X60.here hx rfl (hb hby at_41) rfl rfl ?_
    show Steps p.tables e below (T60.setTop (mkF m 42 #[.val (.int p1), .unset, .unset, .unset, .unset] [(.ref b1), (.ref b1)])) _
    refine XS.bipush X60.here hx rfl (hb hby at_42) ?_
    show Steps p.tables e below (T60.setTop (mkF m 44 #[.val (.int p1), .unset, .unset, .unset, .unset] [(.int (6 : Int32)), (.ref b1), (.ref b1)])) _
    refine st63 _ ?_
    show Steps p.tables e below (T63.setTop (mkF m 47 #[.val (.int p1), .unset, .unset, .unset, .unset] [(.ref t6), (.int (6 : Int32)), (.ref b1), (.ref b1)])) _
    refine st66 _ ?_
    show Steps p.tables e below (T66.setTop (mkF m 48 #[.val (.int p1), .unset, .unset, .unset, .unset] [(.ref b1)])) _
    refine XS.dup X66.here hx rfl (hb hby at_48) rfl rfl ?_
    show Steps p.tables e below (T66.setTop (mkF m 49 #[.val (.int p1), .unset, .unset, .unset, .unset] [(.ref b1), (.ref b1)])) _
    refine XS.bipush X66.here hx rfl (hb hby at_49) ?_
    show Steps p.tables e below (T66.setTop (mkF m 51 #[.val (.int p1), .unset, .unset, .unset, .unset] [(.int (7 : Int32)), (.ref b1), (.ref b1)])) _
    refine st69 _ ?_
    show Steps p.tables e below (T69.setTop (mkF m 54 #[.val (.int p1), .unset, .unset, .unset, .unset] [(.ref t7), (.int (7 : Int32)), (.ref b1), (.ref b1)])) _
    refine st72 _ ?_
    show Steps p.tables e below (T72.setTop (mkF m 55 #[.val (.int p1), .unset, .unset, .unset, .unset] [(.ref b1)])) _
    refine XS.dup X72.here hx rfl (hb hby at_55) rfl rfl ?_
    show Steps p.tables e below (T72.setTop (mkF m 56 #[.val (.int p1), .unset, .unset, .unset, .unset] [(.ref b1), (.ref b1)])) _
    refine XS.bipush X72.here hx rfl (hb hby at_56) ?_
    show Steps p.tables e below (T72.setTop (mkF m 58 #[.val (.int p1), .unset, .unset, .unset, .unset] [(.int (8 : Int32)), (.ref b1), (.ref b1)])) _
    refine st75 _ ?_
    show Steps p.tables e below (T75.setTop (mkF m 61 #[.val (.int p1), .unset, .unset, .unset, .unset] [(.ref t8), (.int (8 : Int32)), (.ref b1), (.ref b1)])) _
    refine st78 _ ?_
    show Steps p.tables e below (T78.setTop (mkF m 62 #[.val (.int p1), .unset, .unset, .unset, .unset] [(.ref b1)])) _
    refine XS.dup X78.here hx rfl (hb hby at_62) rfl rfl ?_
    show Steps p.tables e below (T78.setTop (mkF m 63 #[.val (.int p1), .unset, .unset, .unset, .unset] [(.ref b1), (.ref b1)])) _
    refine XS.bipush X78.here hx rfl (hb hby at_63) ?_
    show Steps p.tables e below (T78.setTop (mkF m 65 #[.val (.int p1), .unset, .unset, .unset, .unset] [(.int (9 : Int32)), (.ref b1), (.ref b1)])) _
    refine st81 _ ?_
    show Steps p.tables e below (T81.setTop (mkF m 68 #[.val (.int p1), .unset, .unset, .unset, .unset] [(.ref t9), (.int (9 : Int32)), (.ref b1), (.ref b1)])) _
    refine st84 _ ?_
    show Steps p.tables e below (T84.setTop (mkF m 69 #[.val (.int p1), .unset, .unset, .unset, .unset] [(.ref b1)])) _
    refine XS.dup X84.here hx rfl (hb hby at_69) rfl rfl ?_
    show Steps p.tables e below (T84.setTop (mkF m 70 #[.val (.int p1), .unset, .unset, .unset, .unset] [(.ref b1), (.ref b1)])) _
    refine XS.bipush X84.here hx rfl (hb hby at_70) ?_
    show Steps p.tables e below (T84.setTop (mkF m 72 #[.val (.int p1), .unset, .unset, .unset, .unset] [(.int (10 : Int32)), (.ref b1), (.ref b1)])) _
    refine st87 _ ?_
    show Steps p.tables e below (T87.setTop (mkF m 75 #[.val (.int p1), .unset, .unset, .unset, .unset] [(.ref t10), (.int (10 : Int32)), (.ref b1), (.ref b1)])) _
    refine st90 _ ?_
    show Steps p.tables e below (T90.setTop (mkF m 76 #[.val (.int p1), .unset, .unset, .unset, .unset] [(.ref b1)])) _
    refine XS.dup X90.here hx rfl (hb hby at_76) rfl rfl ?_
    show Steps p.tables e below (T90.setTop (mkF m 77 #[.val (.int p1), .unset, .unset, .unset, .unset] [(.ref b1), (.ref b1)])) _
    refine XS.bipush X90.here hx rfl (hb hby at_77) ?_
    show Steps p.tables e below (T90.setTop (mkF m 79 #[.val (.int p1), .unset, .unset, .unset, .unset] [(.int (11 : Int32)), (.ref b1), (.ref b1)])) _
    refine st93 _ ?_
    show Steps p.tables e below (T93.setTop (mkF m 82 #[.val (.int p1), .unset, .unset, .unset, .unset] [(.ref t11), (.int (11 : Int32)), (.ref b1), (.ref b1)])) _
    refine st96 _ ?_
    show Steps p.tables e below (T96.setTop (mkF m 83 #[.val (.int p1), .unset, .unset, .unset, .unset] [(.ref b1)])) _
    refine XS.dup X96.here hx rfl (hb hby at_83) rfl rfl ?_
    show Steps p.tables e below (T96.setTop (mkF m 84 #[.val (.int p1), .unset, .unset, .unset, .unset] [(.ref b1), (.ref b1)])) _
    refine XS.bipush X96.here hx rfl (hb hby at_84) ?_
    show Steps p.tables e below (T96.setTop (mkF m 86 #[.val (.int p1), .unset, .unset, .unset, .unset] [(.int (12 : Int32)), (.ref b1), (.ref b1)])) _
    refine st99 _ ?_
    show Steps p.tables e below (T99.setTop (mkF m 89 #[.val (.int p1), .unset, .unset, .unset, .unset] [(.ref t12), (.int (12 : Int32)), (.ref b1), (.ref b1)])) _
    refine st102 _ ?_
    show Steps p.tables e below (T102.setTop (mkF m 90 #[.val (.int p1), .unset, .unset, .unset, .unset] [(.ref b1)])) _
    refine XS.dup X102.here hx rfl (hb hby at_90) rfl rfl ?_
    show Steps p.tables e below (T102.setTop (mkF m 91 #[.val (.int p1), .unset, .unset, .unset, .unset] [(.ref b1), (.ref b1)])) _
    refine XS.bipush X102.here hx rfl (hb hby at_91) ?_
    show Steps p.tables e below (T102.setTop (mkF m 93 #[.val (.int p1), .unset, .unset, .unset, .unset] [(.int (13 : Int32)), (.ref b1), (.ref b1)])) _
    refine st105 _ ?_
    show Steps p.tables e below (T105.setTop (mkF m 96 #[.val (.int p1), .unset, .unset, .unset, .unset] [(.ref t13), (.int (13 : Int32)), (.ref b1), (.ref b1)])) _
    refine st108 _ ?_
    show Steps p.tables e below (T108.setTop (mkF m 97 #[.val (.int p1), .unset, .unset, .unset, .unset] [(.ref b1)])) _
    refine XS.dup X108.here hx rfl (hb hby at_97) rfl rfl ?_
    show Steps p.tables e below (T108.setTop (mkF m 98 #[.val (.int p1), .unset, .unset, .unset, .unset] [(.ref b1), (.ref b1)])) _
    refine XS.bipush X108.here hx rfl (hb hby at_98) ?_
    show Steps p.tables e below (T108.setTop (mkF m 100 #[.val (.int p1), .unset, .unset, .unset, .unset] [(.int (14 : Int32)), (.ref b1), (.ref b1)])) _
    refine st111 _ ?_
    show Steps p.tables e below (T111.setTop (mkF m 103 #[.val (.int p1), .unset, .unset, .unset, .unset] [(.ref t14), (.int (14 : Int32)), (.ref b1), (.ref b1)])) _
    refine st114 _ ?_
    show Steps p.tables e below (T114.setTop (mkF m 104 #[.val (.int p1), .unset, .unset, .unset, .unset] [(.ref b1)])) _
    refine XS.dup X114.here hx rfl (hb hby at_104) rfl rfl ?_
    show Steps p.tables e below (T114.setTop (mkF m 105 #[.val (.int p1), .unset, .unset, .unset, .unset] [(.ref b1), (.ref b1)])) _
    refine XS.bipush X114.here hx rfl (hb hby at_105) ?_
    show Steps p.tables e below (T114.setTop (mkF m 107 #[.val (.int p1), .unset, .unset, .unset, .unset] [(.int (15 : Int32)), (.ref b1), (.ref b1)])) _
    refine st117 _ ?_
    show Steps p.tables e below (T117.setTop (mkF m 110 #[.val (.int p1), .unset, .unset, .unset, .unset] [(.ref t15), (.int (15 : Int32)), (.ref b1), (.ref b1)])) _
    refine st120 _ ?_
    show Steps p.tables e below (T120.setTop (mkF m 111 #[.val (.int p1), .unset, .unset, .unset, .unset] [(.ref b1)])) _
    refine XS.dup X120.here hx rfl (hb hby at_111) rfl rfl ?_
    show Steps p.tables e below (T120.setTop (mkF m 112 #[.val (.int p1), .unset, .unset, .unset, .unset] [(.ref b1), (.ref b1)])) _
    refine XS.bipush X120.here hx rfl (hb hby at_112) ?_
    show Steps p.tables e below (T120.setTop (mkF m 114 #[.val (.int p1), .unset, .unset, .unset, .unset] [(.int (16 : Int32)), (.ref b1), (.ref b1)])) _
    refine st123 _ ?_
    show Steps p.tables e below (T123.setTop (mkF m 117 #[.val (.int p1), .unset, .unset, .unset, .unset] [(.ref t16), (.int (16 : Int32)), (.ref b1), (.ref b1)])) _
    refine st126 _ ?_
    show Steps p.tables e below (T126.setTop (mkF m 118 #[.val (.int p1), .unset, .unset, .unset, .unset] [(.ref b1)])) _
    refine XS.dup X126.here hx rfl (hb hby at_118) rfl rfl ?_
    show Steps p.tables e below (T126.setTop (mkF m 119 #[.val (.int p1), .unset, .unset, .unset, .unset] [(.ref b1), (.ref b1)])) _
    refine XS.bipush X126.here hx rfl (hb hby at_119) ?_
    show Steps p.tables e below (T126.setTop (mkF m 121 #[.val (.int p1), .unset, .unset, .unset, .unset] [(.int (17 : Int32)), (.ref b1), (.ref b1)])) _
    refine st129 _ ?_
    show Steps p.tables e below (T129.setTop (mkF m 124 #[.val (.int p1), .unset, .unset, .unset, .unset] [(.ref t17), (.int (17 : Int32)), (.ref b1), (.ref b1)])) _
    refine st132 _ ?_
    show Steps p.tables e below (T132.setTop (mkF m 125 #[.val (.int p1), .unset, .unset, .unset, .unset] [(.ref b1)])) _
    refine XS.dup X132.here hx rfl (hb hby at_125) rfl rfl ?_
    show Steps p.tables e below (T132.setTop (mkF m 126 #[.val (.int p1), .unset, .unset, .unset, .unset] [(.ref b1), (.ref b1)])) _
    refine XS.bipush X132.here hx rfl (hb hby at_126) ?_
    show Steps p.tables e below (T132.setTop (mkF m 128 #[.val (.int p1), .unset, .unset, .unset, .unset] [(.int (18 : Int32)), (.ref b1), (.ref b1)])) _
    refine st135 _ ?_
    show Steps p.tables e below (T135.setTop (mkF m 131 #[.val (.int p1), .unset, .unset, .unset, .unset] [(.ref t18), (.int (18 : Int32)), (.ref b1), (.ref b1)])) _
    refine st138 _ ?_
    show Steps p.tables e below (T138.setTop (mkF m 132 #[.val (.int p1), .unset, .unset, .unset, .unset] [(.ref b1)])) _
    refine XS.dup X138.here hx rfl (hb hby at_132) rfl rfl ?_
    show Steps p.tables e below (T138.setTop (mkF m 133 #[.val (.int p1), .unset, .unset, .unset, .unset] [(.ref b1), (.ref b1)])) _
    refine XS.bipush X138.here hx rfl (hb hby at_133) ?_
    show Steps p.tables e below (T138.setTop (mkF m 135 #[.val (.int p1), .unset, .unset, .unset, .unset] [(.int (19 : Int32)), (.ref b1), (.ref b1)])) _
    refine st141 _ ?_
    show Steps p.tables e below (T141.setTop (mkF m 138 #[.val (.int p1), .unset, .unset, .unset, .unset] [(.ref t19), (.int (19 : Int32)), (.ref b1), (.ref b1)])) _
    refine st144 _ ?_
    show Steps p.tables e below (T144.setTop (mkF m 139 #[.val (.int p1), .unset, .unset, .unset, .unset] [(.ref b1)])) _
    refine XS.dup X144.here hx rfl (hb hby at_139) rfl rfl ?_
    show Steps p.tables e below (T144.setTop (mkF m 140 #[.val (.int p1), .unset, .unset, .unset, .unset] [(.ref b1), (.ref b1)])) _
    refine XS.bipush X144.here hx rfl (hb hby at_140) ?_
    show Steps p.tables e below (T144.setTop (mkF m 142 #[.val (.int p1), .unset, .unset, .unset, .unset] [(.int (20 : Int32)), (.ref b1), (.ref b1)])) _
    refine st147 _ ?_
    show Steps p.tables e below (T147.setTop (mkF m 145 #[.val (.int p1), .unset, .unset, .unset, .unset] [(.ref t20), (.int (20 : Int32)), (.ref b1), (.ref b1)])) _
    refine st150 _ ?_
    show Steps p.tables e below (T150.setTop (mkF m 146 #[.val (.int p1), .unset, .unset, .unset, .unset] [(.ref b1)])) _
    refine XS.dup X150.here hx rfl (hb hby at_146) rfl rfl ?_
    show Steps p.tables e below (T150.setTop (mkF m 147 #[.val (.int p1), .unset, .unset, .unset, .unset] [(.ref b1), (.ref b1)])) _
    refine XS.bipush X150.here hx rfl (hb hby at_147) ?_
    show Steps p.tables e below (T150.setTop (mkF m 149 #[.val (.int p1), .unset, .unset, .unset, .unset] [(.int (21 : Int32)), (.ref b1), (.ref b1)])) _
    refine st153 _ ?_
    show Steps p.tables e below (T153.setTop (mkF m 152 #[.val (.int p1), .unset, .unset, .unset, .unset] [(.ref t21), (.int (21 : Int32)), (.ref b1), (.ref b1)])) _
    refine st156 _ ?_
    show Steps p.tables e below (T156.setTop (mkF m 153 #[.val (.int p1), .unset, .unset, .unset, .unset] [(.ref b1)])) _
    refine XS.dup X156.here hx rfl (hb hby at_153) rfl rfl ?_
    show Steps p.tables e below (T156.setTop (mkF m 154 #[.val (.int p1), .unset, .unset, .unset, .unset] [(.ref b1), (.ref b1)])) _
    refine XS.bipush X156.here hx rfl (hb hby at_154) ?_
    show Steps p.tables e below (T156.setTop (mkF m 156 #[.val (.int p1), .unset, .unset, .unset, .unset] [(.int (22 : Int32)), (.ref b1), (.ref b1)])) _
    refine st159 _ ?_
    show Steps p.tables e below (T159.setTop (mkF m 159 #[.val (.int p1), .unset, .unset, .unset, .unset] [(.ref t22), (.int (22 : Int32)), (.ref b1), (.ref b1)])) _
    refine st162 _ ?_
    show Steps p.tables e below (T162.setTop (mkF m 160 #[.val (.int p1), .unset, .unset, .unset, .unset] [(.ref b1)])) _
    refine XS.astoreN X162.here hx rfl (hb hby at_160) rfl rfl (l' := #[.val (.int p1), .val (.ref b1), .unset, .unset, .unset]) rfl ?_
    show Steps p.tables e below (T162.setTop (mkF m 161 #[.val (.int p1), .val (.ref b1), .unset, .unset, .unset] [])) _
    refine XS.iloadN X162.here hx rfl (hb hby at_161) rfl  ?_
    show Steps p.tables e below (T162.setTop (mkF m 162 #[.val (.int p1), .val (.ref b1), .unset, .unset, .unset] [(.int p1)])) _
    refine X162.ldcInt hx hown (mvT hZ (ow hw 50 rfl)) (g := (mkF m 162 #[.val (.int p1), .val (.ref b1), .unset, .unset, .unset] [(.int p1)])) rfl (hb hby at_162) _ ?_
    show Steps p.tables e below (T162.setTop (mkF m 164 #[.val (.int p1), .val (.ref b1), .unset, .unset, .unset] [(.int (2147483647 : Int32)), (.int p1)])) _
    refine XS.iand X162.here hx rfl (hb hby at_164) rfl ?_
    show Steps p.tables e below (T162.setTop (mkF m 165 #[.val (.int p1), .val (.ref b1), .unset, .unset, .unset] [(.int (p1 &&& (2147483647 : Int32)))])) _
    refine XS.bipush X162.here hx rfl (hb hby at_165) ?_
    show Steps p.tables e below (T162.setTop (mkF m 167 #[.val (.int p1), .val (.ref b1), .unset, .unset, .unset] [(.int (23 : Int32)), (.int (p1 &&& (2147483647 : Int32)))])) _
    refine iremM X162 hx rfl (hb hby at_167) rfl (by decide) ?_
    show Steps p.tables e below (T162.setTop (mkF m 168 #[.val (.int p1), .val (.ref b1), .unset, .unset, .unset] [(.int ((p1 &&& (2147483647 : Int32)) % (23 : Int32)))])) _
    refine XS.istoreN X162.here hx rfl (hb hby at_168) rfl (l' := #[.val (.int p1), .val (.ref b1), .val (.int ((p1 &&& (2147483647 : Int32)) % (23 : Int32))), .unset, .unset]) rfl ?_
    exact kZ)
  obtain ⟨Lg169, X169, N169⟩ : ∃ L, Stand p l e room_1 s m #[(.int p1)] below meth c T162 L 1 23 ∧ Fr n0 L := ⟨_, X162, N162⟩
  obtain ⟨kk, hkk⟩ : ∃ z, z = ((p1 &&& (2147483647 : Int32)) % (23 : Int32)) := ⟨_, rfl⟩
  rw [← hkk] at pre168
  rcases own_23 hkk with rfl | rfl | rfl | rfl | rfl | rfl | rfl | rfl | rfl | rfl | rfl | rfl | rfl | rfl | rfl | rfl | rfl | rfl | rfl | rfl | rfl | rfl | rfl
  ·  -- 0
    obtain ⟨c170, Arc170, qc170, Sc170, Mc170, Hc170, Gc170⟩ := id V162
    have hinc170 : ¬ ((0 : Int32) < 0 ∨ c170.slots.size ≤ ((0 : Int32)).toNatClampNeg) := inb_of Sc170 ⟨by decide, by decide⟩
    have hatc170 : c170.slots[((0 : Int32)).toNatClampNeg]? = some (.ref t0) := Hc170.at hinc170 rfl
    have fa172 : Exa Z h162 t0 "com/example/hewgen/hewgen/model/ShapeType" := (((((((((((((((((((((((fa29.wr W30).wr W36).wr W42).wr W48).wr W54).wr W60).wr W66).wr W72).wr W78).wr W84).wr W90).wr W96).wr W102).wr W108).wr W114).wr W120).wr W126).wr W132).wr W138).wr W144).wr W150).wr W156).wr W162)
    obtain ⟨cq171, kq171, q171a, q171b, q171c⟩ := isOf hZ e162 fa172
    obtain ⟨_, _, ⟨T171, L171, k171, n171⟩, -, X171, ⟨Lc171, hQ171, l171, y171, z171⟩, st171⟩ := X169.virtualBack hx (y := (⟨"com/example/hewgen/hewgen/model/ShapeType", "hasNamedMembers", "()Z"⟩ : MethodName)) (z := (⟨"com/example/hewgen/hewgen/model/ShapeType", "hasNamedMembers", "()Z"⟩ : MethodName)) hown (mvT hZ (ow hw 51 rfl)) (mvT hZ (ow hw 52 rfl)) (notFace_of_selects (args := #[]) (mvT hZ (ow hw 54 rfl))) (mvT hZ (ow hw 54 rfl)) (mvT hZ (ow hw 53 rfl)) (by decide) (backOf (W := 0) (rm1n l Z a0 hw [] t0 t17 t18 t13 t14 h162 n0 Z163 fa164 fa165 fa166 fa167 n0_17 n0_18 n0_13 n0_14) hZ (ow hw 55 rfl) (ow hw 3 rfl) (by decide) (by decide)) q171a q171c (g := (mkF m 205 #[.val (.int p1), .val (.ref b1), .val (.int (0 : Int32)), .val (.ref t0), .val (.int (0 : Int32))] [(.ref t0)])) rfl (by rw [hml]; rfl) (Steps.refl _) (argsL := []) (rest := []) (lenOf pd2 rfl) rfl (by show 2 * 0 + _ ≤ _; exact Nat.le_of_eq rfl) (hb hby at_205) (fun _ _ => ⟨rfl, e162, (by decide : 1 + 0 ≤ _), (by decide : 23 + 0 ≤ _)⟩)
    dsimp only [Pt.U, Pt.locs, Pt.cells, Pt.slots] at X171 l171 y171 z171 st171 hQ171
    subst l171 y171 z171
    obtain ⟨rfl, N171q, e171⟩ := hQ171
    have N171 := Fr.app N169 N171q
    obtain ⟨fsZ, hrZ, hrun, hended, hW, hsame⟩ := X171.leave (v := some (.int (1 : Int32))) (fun h => by rw [Bd.returns] at h; cases h)
    refine ⟨_, _, pre168 _ ?_, hrun, hended, _, _, rfl, ?_, ⟨_, rfl⟩, hW, hsame.mono (by decide) (by decide)⟩
    · show Steps p.tables e below (T162.setTop (mkF m 169 #[.val (.int p1), .val (.ref b1), .val (.int (0 : Int32)), .unset, .unset] [])) _
      refine XS.aloadN X169.here hx rfl (hb hby at_169) rfl rfl ?_
      show Steps p.tables e below (T162.setTop (mkF m 170 #[.val (.int p1), .val (.ref b1), .val (.int (0 : Int32)), .unset, .unset] [(.ref b1)])) _
      refine XS.iloadN X169.here hx rfl (hb hby at_170) rfl  ?_
      show Steps p.tables e below (T162.setTop (mkF m 171 #[.val (.int p1), .val (.ref b1), .val (.int (0 : Int32)), .unset, .unset] [(.int (0 : Int32)), (.ref b1)])) _
      refine X169.aaload hx (j := (0 : Int32)) (v := (.ref t0)) (by rw [e162]; exact Arc170.1) (State.isArrayOf_alike hZ.alike Arc170.2.1) rfl Arc170.2.2 hinc170 hatc170 (g := (mkF m 171 #[.val (.int p1), .val (.ref b1), .val (.int (0 : Int32)), .unset, .unset] [(.int (0 : Int32)), (.ref b1)])) rfl rfl (hb hby at_171) _ ?_
      show Steps p.tables e below (T162.setTop (mkF m 172 #[.val (.int p1), .val (.ref b1), .val (.int (0 : Int32)), .unset, .unset] [(.ref t0)])) _
      refine XS.astoreN X169.here hx rfl (hb hby at_172) rfl rfl (l' := #[.val (.int p1), .val (.ref b1), .val (.int (0 : Int32)), .val (.ref t0), .unset]) rfl ?_
      show Steps p.tables e below (T162.setTop (mkF m 173 #[.val (.int p1), .val (.ref b1), .val (.int (0 : Int32)), .val (.ref t0), .unset] [])) _
      refine XS.iloadN X169.here hx rfl (hb hby at_173) rfl  ?_
      show Steps p.tables e below (T162.setTop (mkF m 174 #[.val (.int p1), .val (.ref b1), .val (.int (0 : Int32)), .val (.ref t0), .unset] [(.int (0 : Int32))])) _
      refine XS.bipush X169.here hx rfl (hb hby at_174) ?_
      show Steps p.tables e below (T162.setTop (mkF m 176 #[.val (.int p1), .val (.ref b1), .val (.int (0 : Int32)), .val (.ref t0), .unset] [(.int (13 : Int32)), (.int (0 : Int32))])) _
      refine XS.icmpNo X169.here hx rfl (hb hby at_176) rfl (feq (by decide)).1 ?_
      show Steps p.tables e below (T162.setTop (mkF m 179 #[.val (.int p1), .val (.ref b1), .val (.int (0 : Int32)), .val (.ref t0), .unset] [])) _
      refine XS.iloadN X169.here hx rfl (hb hby at_179) rfl  ?_
      show Steps p.tables e below (T162.setTop (mkF m 180 #[.val (.int p1), .val (.ref b1), .val (.int (0 : Int32)), .val (.ref t0), .unset] [(.int (0 : Int32))])) _
      refine XS.bipush X169.here hx rfl (hb hby at_180) ?_
      show Steps p.tables e below (T162.setTop (mkF m 182 #[.val (.int p1), .val (.ref b1), .val (.int (0 : Int32)), .val (.ref t0), .unset] [(.int (14 : Int32)), (.int (0 : Int32))])) _
      refine XS.icmpNo X169.here hx rfl (hb hby at_182) rfl (feq (by decide)).1 ?_
      show Steps p.tables e below (T162.setTop (mkF m 185 #[.val (.int p1), .val (.ref b1), .val (.int (0 : Int32)), .val (.ref t0), .unset] [])) _
      refine XS.iloadN X169.here hx rfl (hb hby at_185) rfl  ?_
      show Steps p.tables e below (T162.setTop (mkF m 186 #[.val (.int p1), .val (.ref b1), .val (.int (0 : Int32)), .val (.ref t0), .unset] [(.int (0 : Int32))])) _
      refine XS.bipush X169.here hx rfl (hb hby at_186) ?_
      show Steps p.tables e below (T162.setTop (mkF m 188 #[.val (.int p1), .val (.ref b1), .val (.int (0 : Int32)), .val (.ref t0), .unset] [(.int (17 : Int32)), (.int (0 : Int32))])) _
      refine XS.icmpNo X169.here hx rfl (hb hby at_188) rfl (feq (by decide)).1 ?_
      show Steps p.tables e below (T162.setTop (mkF m 191 #[.val (.int p1), .val (.ref b1), .val (.int (0 : Int32)), .val (.ref t0), .unset] [])) _
      refine XS.iloadN X169.here hx rfl (hb hby at_191) rfl  ?_
      show Steps p.tables e below (T162.setTop (mkF m 192 #[.val (.int p1), .val (.ref b1), .val (.int (0 : Int32)), .val (.ref t0), .unset] [(.int (0 : Int32))])) _
      refine XS.bipush X169.here hx rfl (hb hby at_192) ?_
      show Steps p.tables e below (T162.setTop (mkF m 194 #[.val (.int p1), .val (.ref b1), .val (.int (0 : Int32)), .val (.ref t0), .unset] [(.int (18 : Int32)), (.int (0 : Int32))])) _
      refine XS.icmpYes X169.here hx rfl (pc0 := 194) (pc' := 201) rfl (hb hby at_194) rfl (feq (by decide)).2 (by decide) (by decide) ?_
      show Steps p.tables e below (T162.setTop (mkF m 201 #[.val (.int p1), .val (.ref b1), .val (.int (0 : Int32)), .val (.ref t0), .unset] [])) _
      refine XS.iconst X169.here hx rfl (hb hby at_201) ?_
      show Steps p.tables e below (T162.setTop (mkF m 202 #[.val (.int p1), .val (.ref b1), .val (.int (0 : Int32)), .val (.ref t0), .unset] [(.int (0 : Int32))])) _
      refine XS.istore X169.here hx rfl (hb hby at_202) rfl (l' := #[.val (.int p1), .val (.ref b1), .val (.int (0 : Int32)), .val (.ref t0), .val (.int (0 : Int32))]) rfl ?_
      show Steps p.tables e below (T162.setTop (mkF m 204 #[.val (.int p1), .val (.ref b1), .val (.int (0 : Int32)), .val (.ref t0), .val (.int (0 : Int32))] [])) _
      refine XS.aloadN X169.here hx rfl (hb hby at_204) rfl rfl ?_
      show Steps p.tables e below (T162.setTop (mkF m 205 #[.val (.int p1), .val (.ref b1), .val (.int (0 : Int32)), .val (.ref t0), .val (.int (0 : Int32))] [(.ref t0)])) _
      refine st171.trans ?_
      show Steps p.tables e below (T171.setTop (mkF m 208 #[.val (.int p1), .val (.ref b1), .val (.int (0 : Int32)), .val (.ref t0), .val (.int (0 : Int32))] [(.int (0 : Int32))])) _
      refine XS.iload X171.here hx rfl (hb hby at_208) rfl  ?_
      show Steps p.tables e below (T171.setTop (mkF m 210 #[.val (.int p1), .val (.ref b1), .val (.int (0 : Int32)), .val (.ref t0), .val (.int (0 : Int32))] [(.int (0 : Int32)), (.int (0 : Int32))])) _
      refine XS.icmpNo X171.here hx rfl (hb hby at_210) rfl (teq (by decide)).2 ?_
      show Steps p.tables e below (T171.setTop (mkF m 213 #[.val (.int p1), .val (.ref b1), .val (.int (0 : Int32)), .val (.ref t0), .val (.int (0 : Int32))] [])) _
      refine XS.iconst X171.here hx rfl (hb hby at_213) ?_
      show Steps p.tables e below (T171.setTop (mkF m 214 #[.val (.int p1), .val (.ref b1), .val (.int (0 : Int32)), .val (.ref t0), .val (.int (0 : Int32))] [(.int (1 : Int32))])) _
      refine XS.goto X171.here hx rfl (pc0 := 214) (pc' := 218) rfl (hb hby at_214) (by decide) (by decide) ?_
      show Steps p.tables e below (T171.setTop (mkF m 218 #[.val (.int p1), .val (.ref b1), .val (.int (0 : Int32)), .val (.ref t0), .val (.int (0 : Int32))] [(.int (1 : Int32))])) _
      exact retN X171 hx (t := .boolean) Bd.returns (by simp) (hb hby at_218) hrZ
    · show Q0 Z p1 t0 t1 t2 t3 t4 t5 t6 t7 t8 t9 t10 t11 t12 t13 t14 t15 t16 t17 t18 t19 t20 t21 t22 h0 n0 _ T171.heap _
      rw [e171]
      exact ⟨rfl, N171⟩
  ·  -- 1
    obtain ⟨c173, Arc173, qc173, Sc173, Mc173, Hc173, Gc173⟩ := id V162
    have hinc173 : ¬ ((1 : Int32) < 0 ∨ c173.slots.size ≤ ((1 : Int32)).toNatClampNeg) := inb_of Sc173 ⟨by decide, by decide⟩
    have hatc173 : c173.slots[((1 : Int32)).toNatClampNeg]? = some (.ref t1) := Hc173.at hinc173 rfl
    have fa175 : Exa Z h162 t1 "com/example/hewgen/hewgen/model/ShapeType" := ((((((((((((((((((((((fa35.wr W36).wr W42).wr W48).wr W54).wr W60).wr W66).wr W72).wr W78).wr W84).wr W90).wr W96).wr W102).wr W108).wr W114).wr W120).wr W126).wr W132).wr W138).wr W144).wr W150).wr W156).wr W162)
    obtain ⟨cq174, kq174, q174a, q174b, q174c⟩ := isOf hZ e162 fa175
    obtain ⟨_, _, ⟨T174, L174, k174, n174⟩, -, X174, ⟨Lc174, hQ174, l174, y174, z174⟩, st174⟩ := X169.virtualBack hx (y := (⟨"com/example/hewgen/hewgen/model/ShapeType", "hasNamedMembers", "()Z"⟩ : MethodName)) (z := (⟨"com/example/hewgen/hewgen/model/ShapeType", "hasNamedMembers", "()Z"⟩ : MethodName)) hown (mvT hZ (ow hw 51 rfl)) (mvT hZ (ow hw 52 rfl)) (notFace_of_selects (args := #[]) (mvT hZ (ow hw 54 rfl))) (mvT hZ (ow hw 54 rfl)) (mvT hZ (ow hw 53 rfl)) (by decide) (backOf (W := 0) (rm1n l Z a0 hw [] t1 t17 t18 t13 t14 h162 n0 Z163 fa164 fa165 fa166 fa167 n1_17 n1_18 n1_13 n1_14) hZ (ow hw 55 rfl) (ow hw 3 rfl) (by decide) (by decide)) q174a q174c (g := (mkF m 205 #[.val (.int p1), .val (.ref b1), .val (.int (1 : Int32)), .val (.ref t1), .val (.int (0 : Int32))] [(.ref t1)])) rfl (by rw [hml]; rfl) (Steps.refl _) (argsL := []) (rest := []) (lenOf pd2 rfl) rfl (by show 2 * 0 + _ ≤ _; exact Nat.le_of_eq rfl) (hb hby at_205) (fun _ _ => ⟨rfl, e162, (by decide : 1 + 0 ≤ _), (by decide : 23 + 0 ≤ _)⟩)
    dsimp only [Pt.U, Pt.locs, Pt.cells, Pt.slots] at X174 l174 y174 z174 st174 hQ174
    subst l174 y174 z174
    obtain ⟨rfl, N174q, e174⟩ := hQ174
    have N174 := Fr.app N169 N174q
    obtain ⟨fsZ, hrZ, hrun, hended, hW, hsame⟩ := X174.leave (v := some (.int (1 : Int32))) (fun h => by rw [Bd.returns] at h; cases h)
    refine ⟨_, _, pre168 _ ?_, hrun, hended, _, _, rfl, ?_, ⟨_, rfl⟩, hW, hsame.mono (by decide) (by decide)⟩
    · show Steps p.tables e below (T162.setTop (mkF m 169 #[.val (.int p1), .val (.ref b1), .val (.int (1 : Int32)), .unset, .unset] [])) _
      refine XS.aloadN X169.here hx rfl (hb hby at_169) rfl rfl ?_
      show Steps p.tables e below (T162.setTop (mkF m 170 #[.val (.int p1), .val (.ref b1), .val (.int (1 : Int32)), .unset, .unset] [(.ref b1)])) _
      refine XS.iloadN X169.here hx rfl (hb hby at_170) rfl  ?_
      show Steps p.tables e below (T162.setTop (mkF m 171 #[.val (.int p1), .val (.ref b1), .val (.int (1 : Int32)), .unset, .unset] [(.int (1 : Int32)), (.ref b1)])) _
      refine X169.aaload hx (j := (1 : Int32)) (v := (.ref t1)) (by rw [e162]; exact Arc173.1) (State.isArrayOf_alike hZ.alike Arc173.2.1) rfl Arc173.2.2 hinc173 hatc173 (g := (mkF m 171 #[.val (.int p1), .val (.ref b1), .val (.int (1 : Int32)), .unset, .unset] [(.int (1 : Int32)), (.ref b1)])) rfl rfl (hb hby at_171) _ ?_
      show Steps p.tables e below (T162.setTop (mkF m 172 #[.val (.int p1), .val (.ref b1), .val (.int (1 : Int32)), .unset, .unset] [(.ref t1)])) _
      refine XS.astoreN X169.here hx rfl (hb hby at_172) rfl rfl (l' := #[.val (.int p1), .val (.ref b1), .val (.int (1 : Int32)), .val (.ref t1), .unset]) rfl ?_
      show Steps p.tables e below (T162.setTop (mkF m 173 #[.val (.int p1), .val (.ref b1), .val (.int (1 : Int32)), .val (.ref t1), .unset] [])) _
      refine XS.iloadN X169.here hx rfl (hb hby at_173) rfl  ?_
      show Steps p.tables e below (T162.setTop (mkF m 174 #[.val (.int p1), .val (.ref b1), .val (.int (1 : Int32)), .val (.ref t1), .unset] [(.int (1 : Int32))])) _
      refine XS.bipush X169.here hx rfl (hb hby at_174) ?_
      show Steps p.tables e below (T162.setTop (mkF m 176 #[.val (.int p1), .val (.ref b1), .val (.int (1 : Int32)), .val (.ref t1), .unset] [(.int (13 : Int32)), (.int (1 : Int32))])) _
      refine XS.icmpNo X169.here hx rfl (hb hby at_176) rfl (feq (by decide)).1 ?_
      show Steps p.tables e below (T162.setTop (mkF m 179 #[.val (.int p1), .val (.ref b1), .val (.int (1 : Int32)), .val (.ref t1), .unset] [])) _
      refine XS.iloadN X169.here hx rfl (hb hby at_179) rfl  ?_
      show Steps p.tables e below (T162.setTop (mkF m 180 #[.val (.int p1), .val (.ref b1), .val (.int (1 : Int32)), .val (.ref t1), .unset] [(.int (1 : Int32))])) _
      refine XS.bipush X169.here hx rfl (hb hby at_180) ?_
      show Steps p.tables e below (T162.setTop (mkF m 182 #[.val (.int p1), .val (.ref b1), .val (.int (1 : Int32)), .val (.ref t1), .unset] [(.int (14 : Int32)), (.int (1 : Int32))])) _
      refine XS.icmpNo X169.here hx rfl (hb hby at_182) rfl (feq (by decide)).1 ?_
      show Steps p.tables e below (T162.setTop (mkF m 185 #[.val (.int p1), .val (.ref b1), .val (.int (1 : Int32)), .val (.ref t1), .unset] [])) _
      refine XS.iloadN X169.here hx rfl (hb hby at_185) rfl  ?_
      show Steps p.tables e below (T162.setTop (mkF m 186 #[.val (.int p1), .val (.ref b1), .val (.int (1 : Int32)), .val (.ref t1), .unset] [(.int (1 : Int32))])) _
      refine XS.bipush X169.here hx rfl (hb hby at_186) ?_
      show Steps p.tables e below (T162.setTop (mkF m 188 #[.val (.int p1), .val (.ref b1), .val (.int (1 : Int32)), .val (.ref t1), .unset] [(.int (17 : Int32)), (.int (1 : Int32))])) _
      refine XS.icmpNo X169.here hx rfl (hb hby at_188) rfl (feq (by decide)).1 ?_
      show Steps p.tables e below (T162.setTop (mkF m 191 #[.val (.int p1), .val (.ref b1), .val (.int (1 : Int32)), .val (.ref t1), .unset] [])) _
      refine XS.iloadN X169.here hx rfl (hb hby at_191) rfl  ?_
      show Steps p.tables e below (T162.setTop (mkF m 192 #[.val (.int p1), .val (.ref b1), .val (.int (1 : Int32)), .val (.ref t1), .unset] [(.int (1 : Int32))])) _
      refine XS.bipush X169.here hx rfl (hb hby at_192) ?_
      show Steps p.tables e below (T162.setTop (mkF m 194 #[.val (.int p1), .val (.ref b1), .val (.int (1 : Int32)), .val (.ref t1), .unset] [(.int (18 : Int32)), (.int (1 : Int32))])) _
      refine XS.icmpYes X169.here hx rfl (pc0 := 194) (pc' := 201) rfl (hb hby at_194) rfl (feq (by decide)).2 (by decide) (by decide) ?_
      show Steps p.tables e below (T162.setTop (mkF m 201 #[.val (.int p1), .val (.ref b1), .val (.int (1 : Int32)), .val (.ref t1), .unset] [])) _
      refine XS.iconst X169.here hx rfl (hb hby at_201) ?_
      show Steps p.tables e below (T162.setTop (mkF m 202 #[.val (.int p1), .val (.ref b1), .val (.int (1 : Int32)), .val (.ref t1), .unset] [(.int (0 : Int32))])) _
      refine XS.istore X169.here hx rfl (hb hby at_202) rfl (l' := #[.val (.int p1), .val (.ref b1), .val (.int (1 : Int32)), .val (.ref t1), .val (.int (0 : Int32))]) rfl ?_
      show Steps p.tables e below (T162.setTop (mkF m 204 #[.val (.int p1), .val (.ref b1), .val (.int (1 : Int32)), .val (.ref t1), .val (.int (0 : Int32))] [])) _
      refine XS.aloadN X169.here hx rfl (hb hby at_204) rfl rfl ?_
      show Steps p.tables e below (T162.setTop (mkF m 205 #[.val (.int p1), .val (.ref b1), .val (.int (1 : Int32)), .val (.ref t1), .val (.int (0 : Int32))] [(.ref t1)])) _
      refine st174.trans ?_
      show Steps p.tables e below (T174.setTop (mkF m 208 #[.val (.int p1), .val (.ref b1), .val (.int (1 : Int32)), .val (.ref t1), .val (.int (0 : Int32))] [(.int (0 : Int32))])) _
      refine XS.iload X174.here hx rfl (hb hby at_208) rfl  ?_
      show Steps p.tables e below (T174.setTop (mkF m 210 #[.val (.int p1), .val (.ref b1), .val (.int (1 : Int32)), .val (.ref t1), .val (.int (0 : Int32))] [(.int (0 : Int32)), (.int (0 : Int32))])) _
      refine XS.icmpNo X174.here hx rfl (hb hby at_210) rfl (teq (by decide)).2 ?_
      show Steps p.tables e below (T174.setTop (mkF m 213 #[.val (.int p1), .val (.ref b1), .val (.int (1 : Int32)), .val (.ref t1), .val (.int (0 : Int32))] [])) _
      refine XS.iconst X174.here hx rfl (hb hby at_213) ?_
      show Steps p.tables e below (T174.setTop (mkF m 214 #[.val (.int p1), .val (.ref b1), .val (.int (1 : Int32)), .val (.ref t1), .val (.int (0 : Int32))] [(.int (1 : Int32))])) _
      refine XS.goto X174.here hx rfl (pc0 := 214) (pc' := 218) rfl (hb hby at_214) (by decide) (by decide) ?_
      show Steps p.tables e below (T174.setTop (mkF m 218 #[.val (.int p1), .val (.ref b1), .val (.int (1 : Int32)), .val (.ref t1), .val (.int (0 : Int32))] [(.int (1 : Int32))])) _
      exact retN X174 hx (t := .boolean) Bd.returns (by simp) (hb hby at_218) hrZ
    · show Q0 Z p1 t0 t1 t2 t3 t4 t5 t6 t7 t8 t9 t10 t11 t12 t13 t14 t15 t16 t17 t18 t19 t20 t21 t22 h0 n0 _ T174.heap _
      rw [e174]
      exact ⟨rfl, N174⟩
  ·  -- 2
    obtain ⟨c176, Arc176, qc176, Sc176, Mc176, Hc176, Gc176⟩ := id V162
    have hinc176 : ¬ ((2 : Int32) < 0 ∨ c176.slots.size ≤ ((2 : Int32)).toNatClampNeg) := inb_of Sc176 ⟨by decide, by decide⟩
    have hatc176 : c176.slots[((2 : Int32)).toNatClampNeg]? = some (.ref t2) := Hc176.at hinc176 rfl
    have fa178 : Exa Z h162 t2 "com/example/hewgen/hewgen/model/ShapeType" := (((((((((((((((((((((fa41.wr W42).wr W48).wr W54).wr W60).wr W66).wr W72).wr W78).wr W84).wr W90).wr W96).wr W102).wr W108).wr W114).wr W120).wr W126).wr W132).wr W138).wr W144).wr W150).wr W156).wr W162)
    obtain ⟨cq177, kq177, q177a, q177b, q177c⟩ := isOf hZ e162 fa178
    obtain ⟨_, _, ⟨T177, L177, k177, n177⟩, -, X177, ⟨Lc177, hQ177, l177, y177, z177⟩, st177⟩ := X169.virtualBack hx (y := (⟨"com/example/hewgen/hewgen/model/ShapeType", "hasNamedMembers", "()Z"⟩ : MethodName)) (z := (⟨"com/example/hewgen/hewgen/model/ShapeType", "hasNamedMembers", "()Z"⟩ : MethodName)) hown (mvT hZ (ow hw 51 rfl)) (mvT hZ (ow hw 52 rfl)) (notFace_of_selects (args := #[]) (mvT hZ (ow hw 54 rfl))) (mvT hZ (ow hw 54 rfl)) (mvT hZ (ow hw 53 rfl)) (by decide) (backOf (W := 0) (rm1n l Z a0 hw [] t2 t17 t18 t13 t14 h162 n0 Z163 fa164 fa165 fa166 fa167 n2_17 n2_18 n2_13 n2_14) hZ (ow hw 55 rfl) (ow hw 3 rfl) (by decide) (by decide)) q177a q177c (g := (mkF m 205 #[.val (.int p1), .val (.ref b1), .val (.int (2 : Int32)), .val (.ref t2), .val (.int (0 : Int32))] [(.ref t2)])) rfl (by rw [hml]; rfl) (Steps.refl _) (argsL := []) (rest := []) (lenOf pd2 rfl) rfl (by show 2 * 0 + _ ≤ _; exact Nat.le_of_eq rfl) (hb hby at_205) (fun _ _ => ⟨rfl, e162, (by decide : 1 + 0 ≤ _), (by decide : 23 + 0 ≤ _)⟩)
    dsimp only [Pt.U, Pt.locs, Pt.cells, Pt.slots] at X177 l177 y177 z177 st177 hQ177
    subst l177 y177 z177
    obtain ⟨rfl, N177q, e177⟩ := hQ177
    have N177 := Fr.app N169 N177q
    obtain ⟨fsZ, hrZ, hrun, hended, hW, hsame⟩ := X177.leave (v := some (.int (1 : Int32))) (fun h => by rw [Bd.returns] at h; cases h)
    refine ⟨_, _, pre168 _ ?_, hrun, hended, _, _, rfl, ?_, ⟨_, rfl⟩, hW, hsame.mono (by decide) (by decide)⟩
    · show Steps p.tables e below (T162.setTop (mkF m 169 #[.val (.int p1), .val (.ref b1), .val (.int (2 : Int32)), .unset, .unset] [])) _
      refine XS.aloadN X169.here hx rfl (hb hby at_169) rfl rfl ?_
      show Steps p.tables e below (T162.setTop (mkF m 170 #[.val (.int p1), .val (.ref b1), .val (.int (2 : Int32)), .unset, .unset] [(.ref b1)])) _
      refine XS.iloadN X169.here hx rfl (hb hby at_170) rfl  ?_
      show Steps p.tables e below (T162.setTop (mkF m 171 #[.val (.int p1), .val (.ref b1), .val (.int (2 : Int32)), .unset, .unset] [(.int (2 : Int32)), (.ref b1)])) _
      refine X169.aaload hx (j := (2 : Int32)) (v := (.ref t2)) (by rw [e162]; exact Arc176.1) (State.isArrayOf_alike hZ.alike Arc176.2.1) rfl Arc176.2.2 hinc176 hatc176 (g := (mkF m 171 #[.val (.int p1), .val (.ref b1), .val (.int (2 : Int32)), .unset, .unset] [(.int (2 : Int32)), (.ref b1)])) rfl rfl (hb hby at_171) _ ?_
      show Steps p.tables e below (T162.setTop (mkF m 172 #[.val (.int p1), .val (.ref b1), .val (.int (2 : Int32)), .unset, .unset] [(.ref t2)])) _
      refine XS.astoreN X169.here hx rfl (hb hby at_172) rfl rfl (l' := #[.val (.int p1), .val (.ref b1), .val (.int (2 : Int32)), .val (.ref t2), .unset]) rfl ?_
      show Steps p.tables e below (T162.setTop (mkF m 173 #[.val (.int p1), .val (.ref b1), .val (.int (2 : Int32)), .val (.ref t2), .unset] [])) _
      refine XS.iloadN X169.here hx rfl (hb hby at_173) rfl  ?_
      show Steps p.tables e below (T162.setTop (mkF m 174 #[.val (.int p1), .val (.ref b1), .val (.int (2 : Int32)), .val (.ref t2), .unset] [(.int (2 : Int32))])) _
      refine XS.bipush X169.here hx rfl (hb hby at_174) ?_
      show Steps p.tables e below (T162.setTop (mkF m 176 #[.val (.int p1), .val (.ref b1), .val (.int (2 : Int32)), .val (.ref t2), .unset] [(.int (13 : Int32)), (.int (2 : Int32))])) _
      refine XS.icmpNo X169.here hx rfl (hb hby at_176) rfl (feq (by decide)).1 ?_
      show Steps p.tables e below (T162.setTop (mkF m 179 #[.val (.int p1), .val (.ref b1), .val (.int (2 : Int32)), .val (.ref t2), .unset] [])) _
      refine XS.iloadN X169.here hx rfl (hb hby at_179) rfl  ?_
      show Steps p.tables e below (T162.setTop (mkF m 180 #[.val (.int p1), .val (.ref b1), .val (.int (2 : Int32)), .val (.ref t2), .unset] [(.int (2 : Int32))])) _
      refine XS.bipush X169.here hx rfl (hb hby at_180) ?_
      show Steps p.tables e below (T162.setTop (mkF m 182 #[.val (.int p1), .val (.ref b1), .val (.int (2 : Int32)), .val (.ref t2), .unset] [(.int (14 : Int32)), (.int (2 : Int32))])) _
      refine XS.icmpNo X169.here hx rfl (hb hby at_182) rfl (feq (by decide)).1 ?_
      show Steps p.tables e below (T162.setTop (mkF m 185 #[.val (.int p1), .val (.ref b1), .val (.int (2 : Int32)), .val (.ref t2), .unset] [])) _
      refine XS.iloadN X169.here hx rfl (hb hby at_185) rfl  ?_
      show Steps p.tables e below (T162.setTop (mkF m 186 #[.val (.int p1), .val (.ref b1), .val (.int (2 : Int32)), .val (.ref t2), .unset] [(.int (2 : Int32))])) _
      refine XS.bipush X169.here hx rfl (hb hby at_186) ?_
      show Steps p.tables e below (T162.setTop (mkF m 188 #[.val (.int p1), .val (.ref b1), .val (.int (2 : Int32)), .val (.ref t2), .unset] [(.int (17 : Int32)), (.int (2 : Int32))])) _
      refine XS.icmpNo X169.here hx rfl (hb hby at_188) rfl (feq (by decide)).1 ?_
      show Steps p.tables e below (T162.setTop (mkF m 191 #[.val (.int p1), .val (.ref b1), .val (.int (2 : Int32)), .val (.ref t2), .unset] [])) _
      refine XS.iloadN X169.here hx rfl (hb hby at_191) rfl  ?_
      show Steps p.tables e below (T162.setTop (mkF m 192 #[.val (.int p1), .val (.ref b1), .val (.int (2 : Int32)), .val (.ref t2), .unset] [(.int (2 : Int32))])) _
      refine XS.bipush X169.here hx rfl (hb hby at_192) ?_
      show Steps p.tables e below (T162.setTop (mkF m 194 #[.val (.int p1), .val (.ref b1), .val (.int (2 : Int32)), .val (.ref t2), .unset] [(.int (18 : Int32)), (.int (2 : Int32))])) _
      refine XS.icmpYes X169.here hx rfl (pc0 := 194) (pc' := 201) rfl (hb hby at_194) rfl (feq (by decide)).2 (by decide) (by decide) ?_
      show Steps p.tables e below (T162.setTop (mkF m 201 #[.val (.int p1), .val (.ref b1), .val (.int (2 : Int32)), .val (.ref t2), .unset] [])) _
      refine XS.iconst X169.here hx rfl (hb hby at_201) ?_
      show Steps p.tables e below (T162.setTop (mkF m 202 #[.val (.int p1), .val (.ref b1), .val (.int (2 : Int32)), .val (.ref t2), .unset] [(.int (0 : Int32))])) _
      refine XS.istore X169.here hx rfl (hb hby at_202) rfl (l' := #[.val (.int p1), .val (.ref b1), .val (.int (2 : Int32)), .val (.ref t2), .val (.int (0 : Int32))]) rfl ?_
      show Steps p.tables e below (T162.setTop (mkF m 204 #[.val (.int p1), .val (.ref b1), .val (.int (2 : Int32)), .val (.ref t2), .val (.int (0 : Int32))] [])) _
      refine XS.aloadN X169.here hx rfl (hb hby at_204) rfl rfl ?_
      show Steps p.tables e below (T162.setTop (mkF m 205 #[.val (.int p1), .val (.ref b1), .val (.int (2 : Int32)), .val (.ref t2), .val (.int (0 : Int32))] [(.ref t2)])) _
      refine st177.trans ?_
      show Steps p.tables e below (T177.setTop (mkF m 208 #[.val (.int p1), .val (.ref b1), .val (.int (2 : Int32)), .val (.ref t2), .val (.int (0 : Int32))] [(.int (0 : Int32))])) _
      refine XS.iload X177.here hx rfl (hb hby at_208) rfl  ?_
      show Steps p.tables e below (T177.setTop (mkF m 210 #[.val (.int p1), .val (.ref b1), .val (.int (2 : Int32)), .val (.ref t2), .val (.int (0 : Int32))] [(.int (0 : Int32)), (.int (0 : Int32))])) _
      refine XS.icmpNo X177.here hx rfl (hb hby at_210) rfl (teq (by decide)).2 ?_
      show Steps p.tables e below (T177.setTop (mkF m 213 #[.val (.int p1), .val (.ref b1), .val (.int (2 : Int32)), .val (.ref t2), .val (.int (0 : Int32))] [])) _
      refine XS.iconst X177.here hx rfl (hb hby at_213) ?_
      show Steps p.tables e below (T177.setTop (mkF m 214 #[.val (.int p1), .val (.ref b1), .val (.int (2 : Int32)), .val (.ref t2), .val (.int (0 : Int32))] [(.int (1 : Int32))])) _
      refine XS.goto X177.here hx rfl (pc0 := 214) (pc' := 218) rfl (hb hby at_214) (by decide) (by decide) ?_
      show Steps p.tables e below (T177.setTop (mkF m 218 #[.val (.int p1), .val (.ref b1), .val (.int (2 : Int32)), .val (.ref t2), .val (.int (0 : Int32))] [(.int (1 : Int32))])) _
      exact retN X177 hx (t := .boolean) Bd.returns (by simp) (hb hby at_218) hrZ
    · show Q0 Z p1 t0 t1 t2 t3 t4 t5 t6 t7 t8 t9 t10 t11 t12 t13 t14 t15 t16 t17 t18 t19 t20 t21 t22 h0 n0 _ T177.heap _
      rw [e177]
      exact ⟨rfl, N177⟩
  ·  -- 3
    obtain ⟨c179, Arc179, qc179, Sc179, Mc179, Hc179, Gc179⟩ := id V162
    have hinc179 : ¬ ((3 : Int32) < 0 ∨ c179.slots.size ≤ ((3 : Int32)).toNatClampNeg) := inb_of Sc179 ⟨by decide, by decide⟩
    have hatc179 : c179.slots[((3 : Int32)).toNatClampNeg]? = some (.ref t3) := Hc179.at hinc179 rfl
    have fa181 : Exa Z h162 t3 "com/example/hewgen/hewgen/model/ShapeType" := ((((((((((((((((((((fa47.wr W48).wr W54).wr W60).wr W66).wr W72).wr W78).wr W84).wr W90).wr W96).wr W102).wr W108).wr W114).wr W120).wr W126).wr W132).wr W138).wr W144).wr W150).wr W156).wr W162)
    obtain ⟨cq180, kq180, q180a, q180b, q180c⟩ := isOf hZ e162 fa181
    obtain ⟨_, _, ⟨T180, L180, k180, n180⟩, -, X180, ⟨Lc180, hQ180, l180, y180, z180⟩, st180⟩ := X169.virtualBack hx (y := (⟨"com/example/hewgen/hewgen/model/ShapeType", "hasNamedMembers", "()Z"⟩ : MethodName)) (z := (⟨"com/example/hewgen/hewgen/model/ShapeType", "hasNamedMembers", "()Z"⟩ : MethodName)) hown (mvT hZ (ow hw 51 rfl)) (mvT hZ (ow hw 52 rfl)) (notFace_of_selects (args := #[]) (mvT hZ (ow hw 54 rfl))) (mvT hZ (ow hw 54 rfl)) (mvT hZ (ow hw 53 rfl)) (by decide) (backOf (W := 0) (rm1n l Z a0 hw [] t3 t17 t18 t13 t14 h162 n0 Z163 fa164 fa165 fa166 fa167 n3_17 n3_18 n3_13 n3_14) hZ (ow hw 55 rfl) (ow hw 3 rfl) (by decide) (by decide)) q180a q180c (g := (mkF m 205 #[.val (.int p1), .val (.ref b1), .val (.int (3 : Int32)), .val (.ref t3), .val (.int (0 : Int32))] [(.ref t3)])) rfl (by rw [hml]; rfl) (Steps.refl _) (argsL := []) (rest := []) (lenOf pd2 rfl) rfl (by show 2 * 0 + _ ≤ _; exact Nat.le_of_eq rfl) (hb hby at_205) (fun _ _ => ⟨rfl, e162, (by decide : 1 + 0 ≤ _), (by decide : 23 + 0 ≤ _)⟩)
    dsimp only [Pt.U, Pt.locs, Pt.cells, Pt.slots] at X180 l180 y180 z180 st180 hQ180
    subst l180 y180 z180
    obtain ⟨rfl, N180q, e180⟩ := hQ180
    have N180 := Fr.app N169 N180q
    obtain ⟨fsZ, hrZ, hrun, hended, hW, hsame⟩ := X180.leave (v := some (.int (1 : Int32))) (fun h => by rw [Bd.returns] at h; cases h)
    refine ⟨_, _, pre168 _ ?_, hrun, hended, _, _, rfl, ?_, ⟨_, rfl⟩, hW, hsame.mono (by decide) (by decide)⟩
    · show Steps p.tables e below (T162.setTop (mkF m 169 #[.val (.int p1), .val (.ref b1), .val (.int (3 : Int32)), .unset, .unset] [])) _
      refine XS.aloadN X169.here hx rfl (hb hby at_169) rfl rfl ?_
      show Steps p.tables e below (T162.setTop (mkF m 170 #[.val (.int p1), .val (.ref b1), .val (.int (3 : Int32)), .unset, .unset] [(.ref b1)])) _
      refine XS.iloadN X169.here hx rfl (hb hby at_170) rfl  ?_
      show Steps p.tables e below (T162.setTop (mkF m 171 #[.val (.int p1), .val (.ref b1), .val (.int (3 : Int32)), .unset, .unset] [(.int (3 : Int32)), (.ref b1)])) _
      refine X169.aaload hx (j := (3 : Int32)) (v := (.ref t3)) (by rw [e162]; exact Arc179.1) (State.isArrayOf_alike hZ.alike Arc179.2.1) rfl Arc179.2.2 hinc179 hatc179 (g := (mkF m 171 #[.val (.int p1), .val (.ref b1), .val (.int (3 : Int32)), .unset, .unset] [(.int (3 : Int32)), (.ref b1)])) rfl rfl (hb hby at_171) _ ?_
      show Steps p.tables e below (T162.setTop (mkF m 172 #[.val (.int p1), .val (.ref b1), .val (.int (3 : Int32)), .unset, .unset] [(.ref t3)])) _
      refine XS.astoreN X169.here hx rfl (hb hby at_172) rfl rfl (l' := #[.val (.int p1), .val (.ref b1), .val (.int (3 : Int32)), .val (.ref t3), .unset]) rfl ?_
      show Steps p.tables e below (T162.setTop (mkF m 173 #[.val (.int p1), .val (.ref b1), .val (.int (3 : Int32)), .val (.ref t3), .unset] [])) _
      refine XS.iloadN X169.here hx rfl (hb hby at_173) rfl  ?_
      show Steps p.tables e below (T162.setTop (mkF m 174 #[.val (.int p1), .val (.ref b1), .val (.int (3 : Int32)), .val (.ref t3), .unset] [(.int (3 : Int32))])) _
      refine XS.bipush X169.here hx rfl (hb hby at_174) ?_
      show Steps p.tables e below (T162.setTop (mkF m 176 #[.val (.int p1), .val (.ref b1), .val (.int (3 : Int32)), .val (.ref t3), .unset] [(.int (13 : Int32)), (.int (3 : Int32))])) _
      refine XS.icmpNo X169.here hx rfl (hb hby at_176) rfl (feq (by decide)).1 ?_
      show Steps p.tables e below (T162.setTop (mkF m 179 #[.val (.int p1), .val (.ref b1), .val (.int (3 : Int32)), .val (.ref t3), .unset] [])) _
      refine XS.iloadN X169.here hx rfl (hb hby at_179) rfl  ?_
      show Steps p.tables e below (T162.setTop (mkF m 180 #[.val (.int p1), .val (.ref b1), .val (.int (3 : Int32)), .val (.ref t3), .unset] [(.int (3 : Int32))])) _
      refine XS.bipush X169.here hx rfl (hb hby at_180) ?_
      show Steps p.tables e below (T162.setTop (mkF m 182 #[.val (.int p1), .val (.ref b1), .val (.int (3 : Int32)), .val (.ref t3), .unset] [(.int (14 : Int32)), (.int (3 : Int32))])) _
      refine XS.icmpNo X169.here hx rfl (hb hby at_182) rfl (feq (by decide)).1 ?_
      show Steps p.tables e below (T162.setTop (mkF m 185 #[.val (.int p1), .val (.ref b1), .val (.int (3 : Int32)), .val (.ref t3), .unset] [])) _
      refine XS.iloadN X169.here hx rfl (hb hby at_185) rfl  ?_
      show Steps p.tables e below (T162.setTop (mkF m 186 #[.val (.int p1), .val (.ref b1), .val (.int (3 : Int32)), .val (.ref t3), .unset] [(.int (3 : Int32))])) _
      refine XS.bipush X169.here hx rfl (hb hby at_186) ?_
      show Steps p.tables e below (T162.setTop (mkF m 188 #[.val (.int p1), .val (.ref b1), .val (.int (3 : Int32)), .val (.ref t3), .unset] [(.int (17 : Int32)), (.int (3 : Int32))])) _
      refine XS.icmpNo X169.here hx rfl (hb hby at_188) rfl (feq (by decide)).1 ?_
      show Steps p.tables e below (T162.setTop (mkF m 191 #[.val (.int p1), .val (.ref b1), .val (.int (3 : Int32)), .val (.ref t3), .unset] [])) _
      refine XS.iloadN X169.here hx rfl (hb hby at_191) rfl  ?_
      show Steps p.tables e below (T162.setTop (mkF m 192 #[.val (.int p1), .val (.ref b1), .val (.int (3 : Int32)), .val (.ref t3), .unset] [(.int (3 : Int32))])) _
      refine XS.bipush X169.here hx rfl (hb hby at_192) ?_
      show Steps p.tables e below (T162.setTop (mkF m 194 #[.val (.int p1), .val (.ref b1), .val (.int (3 : Int32)), .val (.ref t3), .unset] [(.int (18 : Int32)), (.int (3 : Int32))])) _
      refine XS.icmpYes X169.here hx rfl (pc0 := 194) (pc' := 201) rfl (hb hby at_194) rfl (feq (by decide)).2 (by decide) (by decide) ?_
      show Steps p.tables e below (T162.setTop (mkF m 201 #[.val (.int p1), .val (.ref b1), .val (.int (3 : Int32)), .val (.ref t3), .unset] [])) _
      refine XS.iconst X169.here hx rfl (hb hby at_201) ?_
      show Steps p.tables e below (T162.setTop (mkF m 202 #[.val (.int p1), .val (.ref b1), .val (.int (3 : Int32)), .val (.ref t3), .unset] [(.int (0 : Int32))])) _
      refine XS.istore X169.here hx rfl (hb hby at_202) rfl (l' := #[.val (.int p1), .val (.ref b1), .val (.int (3 : Int32)), .val (.ref t3), .val (.int (0 : Int32))]) rfl ?_
      show Steps p.tables e below (T162.setTop (mkF m 204 #[.val (.int p1), .val (.ref b1), .val (.int (3 : Int32)), .val (.ref t3), .val (.int (0 : Int32))] [])) _
      refine XS.aloadN X169.here hx rfl (hb hby at_204) rfl rfl ?_
      show Steps p.tables e below (T162.setTop (mkF m 205 #[.val (.int p1), .val (.ref b1), .val (.int (3 : Int32)), .val (.ref t3), .val (.int (0 : Int32))] [(.ref t3)])) _
      refine st180.trans ?_
      show Steps p.tables e below (T180.setTop (mkF m 208 #[.val (.int p1), .val (.ref b1), .val (.int (3 : Int32)), .val (.ref t3), .val (.int (0 : Int32))] [(.int (0 : Int32))])) _
      refine XS.iload X180.here hx rfl (hb hby at_208) rfl  ?_
      show Steps p.tables e below (T180.setTop (mkF m 210 #[.val (.int p1), .val (.ref b1), .val (.int (3 : Int32)), .val (.ref t3), .val (.int (0 : Int32))] [(.int (0 : Int32)), (.int (0 : Int32))])) _
      refine XS.icmpNo X180.here hx rfl (hb hby at_210) rfl (teq (by decide)).2 ?_
      show Steps p.tables e below (T180.setTop (mkF m 213 #[.val (.int p1), .val (.ref b1), .val (.int (3 : Int32)), .val (.ref t3), .val (.int (0 : Int32))] [])) _
      refine XS.iconst X180.here hx rfl (hb hby at_213) ?_
      show Steps p.tables e below (T180.setTop (mkF m 214 #[.val (.int p1), .val (.ref b1), .val (.int (3 : Int32)), .val (.ref t3), .val (.int (0 : Int32))] [(.int (1 : Int32))])) _
      refine XS.goto X180.here hx rfl (pc0 := 214) (pc' := 218) rfl (hb hby at_214) (by decide) (by decide) ?_
      show Steps p.tables e below (T180.setTop (mkF m 218 #[.val (.int p1), .val (.ref b1), .val (.int (3 : Int32)), .val (.ref t3), .val (.int (0 : Int32))] [(.int (1 : Int32))])) _
      exact retN X180 hx (t := .boolean) Bd.returns (by simp) (hb hby at_218) hrZ
    · show Q0 Z p1 t0 t1 t2 t3 t4 t5 t6 t7 t8 t9 t10 t11 t12 t13 t14 t15 t16 t17 t18 t19 t20 t21 t22 h0 n0 _ T180.heap _
      rw [e180]
      exact ⟨rfl, N180⟩
  ·  -- 4
    obtain ⟨c182, Arc182, qc182, Sc182, Mc182, Hc182, Gc182⟩ := id V162
    have hinc182 : ¬ ((4 : Int32) < 0 ∨ c182.slots.size ≤ ((4 : Int32)).toNatClampNeg) := inb_of Sc182 ⟨by decide, by decide⟩
    have hatc182 : c182.slots[((4 : Int32)).toNatClampNeg]? = some (.ref t4) := Hc182.at hinc182 rfl
    have fa184 : Exa Z h162 t4 "com/example/hewgen/hewgen/model/ShapeType" := (((((((((((((((((((fa53.wr W54).wr W60).wr W66).wr W72).wr W78).wr W84).wr W90).wr W96).wr W102).wr W108).wr W114).wr W120).wr W126).wr W132).wr W138).wr W144).wr W150).wr W156).wr W162)
    obtain ⟨cq183, kq183, q183a, q183b, q183c⟩ := isOf hZ e162 fa184
    obtain ⟨_, _, ⟨T183, L183, k183, n183⟩, -, X183, ⟨Lc183, hQ183, l183, y183, z183⟩, st183⟩ := X169.virtualBack hx (y := (⟨"com/example/hewgen/hewgen/model/ShapeType", "hasNamedMembers", "()Z"⟩ : MethodName)) (z := (⟨"com/example/hewgen/hewgen/model/ShapeType", "hasNamedMembers", "()Z"⟩ : MethodName)) hown (mvT hZ (ow hw 51 rfl)) (mvT hZ (ow hw 52 rfl)) (notFace_of_selects (args := #[]) (mvT hZ (ow hw 54 rfl))) (mvT hZ (ow hw 54 rfl)) (mvT hZ (ow hw 53 rfl)) (by decide) (backOf (W := 0) (rm1n l Z a0 hw [] t4 t17 t18 t13 t14 h162 n0 Z163 fa164 fa165 fa166 fa167 n4_17 n4_18 n4_13 n4_14) hZ (ow hw 55 rfl) (ow hw 3 rfl) (by decide) (by decide)) q183a q183c (g := (mkF m 205 #[.val (.int p1), .val (.ref b1), .val (.int (4 : Int32)), .val (.ref t4), .val (.int (0 : Int32))] [(.ref t4)])) rfl (by rw [hml]; rfl) (Steps.refl _) (argsL := []) (rest := []) (lenOf pd2 rfl) rfl (by show 2 * 0 + _ ≤ _; exact Nat.le_of_eq rfl) (hb hby at_205) (fun _ _ => ⟨rfl, e162, (by decide : 1 + 0 ≤ _), (by decide : 23 + 0 ≤ _)⟩)
    dsimp only [Pt.U, Pt.locs, Pt.cells, Pt.slots] at X183 l183 y183 z183 st183 hQ183
    subst l183 y183 z183
    obtain ⟨rfl, N183q, e183⟩ := hQ183
    have N183 := Fr.app N169 N183q
    obtain ⟨fsZ, hrZ, hrun, hended, hW, hsame⟩ := X183.leave (v := some (.int (1 : Int32))) (fun h => by rw [Bd.returns] at h; cases h)
    refine ⟨_, _, pre168 _ ?_, hrun, hended, _, _, rfl, ?_, ⟨_, rfl⟩, hW, hsame.mono (by decide) (by decide)⟩
    · show Steps p.tables e below (T162.setTop (mkF m 169 #[.val (.int p1), .val (.ref b1), .val (.int (4 : Int32)), .unset, .unset] [])) _
      refine XS.aloadN X169.here hx rfl (hb hby at_169) rfl rfl ?_
      show Steps p.tables e below (T162.setTop (mkF m 170 #[.val (.int p1), .val (.ref b1), .val (.int (4 : Int32)), .unset, .unset] [(.ref b1)])) _
      refine XS.iloadN X169.here hx rfl (hb hby at_170) rfl  ?_
      show Steps p.tables e below (T162.setTop (mkF m 171 #[.val (.int p1), .val (.ref b1), .val (.int (4 : Int32)), .unset, .unset] [(.int (4 : Int32)), (.ref b1)])) _
      refine X169.aaload hx (j := (4 : Int32)) (v := (.ref t4)) (by rw [e162]; exact Arc182.1) (State.isArrayOf_alike hZ.alike Arc182.2.1) rfl Arc182.2.2 hinc182 hatc182 (g := (mkF m 171 #[.val (.int p1), .val (.ref b1), .val (.int (4 : Int32)), .unset, .unset] [(.int (4 : Int32)), (.ref b1)])) rfl rfl (hb hby at_171) _ ?_
      show Steps p.tables e below (T162.setTop (mkF m 172 #[.val (.int p1), .val (.ref b1), .val (.int (4 : Int32)), .unset, .unset] [(.ref t4)])) _
      refine XS.astoreN X169.here hx rfl (hb hby at_172) rfl rfl (l' := #[.val (.int p1), .val (.ref b1), .val (.int (4 : Int32)), .val (.ref t4), .unset]) rfl ?_
      show Steps p.tables e below (T162.setTop (mkF m 173 #[.val (.int p1), .val (.ref b1), .val (.int (4 : Int32)), .val (.ref t4), .unset] [])) _
      refine XS.iloadN X169.here hx rfl (hb hby at_173) rfl  ?_
      show Steps p.tables e below (T162.setTop (mkF m 174 #[.val (.int p1), .val (.ref b1), .val (.int (4 : Int32)), .val (.ref t4), .unset] [(.int (4 : Int32))])) _
      refine XS.bipush X169.here hx rfl (hb hby at_174) ?_
      show Steps p.tables e below (T162.setTop (mkF m 176 #[.val (.int p1), .val (.ref b1), .val (.int (4 : Int32)), .val (.ref t4), .unset] [(.int (13 : Int32)), (.int (4 : Int32))])) _
      refine XS.icmpNo X169.here hx rfl (hb hby at_176) rfl (feq (by decide)).1 ?_
      show Steps p.tables e below (T162.setTop (mkF m 179 #[.val (.int p1), .val (.ref b1), .val (.int (4 : Int32)), .val (.ref t4), .unset] [])) _
      refine XS.iloadN X169.here hx rfl (hb hby at_179) rfl  ?_
      show Steps p.tables e below (T162.setTop (mkF m 180 #[.val (.int p1), .val (.ref b1), .val (.int (4 : Int32)), .val (.ref t4), .unset] [(.int (4 : Int32))])) _
      refine XS.bipush X169.here hx rfl (hb hby at_180) ?_
      show Steps p.tables e below (T162.setTop (mkF m 182 #[.val (.int p1), .val (.ref b1), .val (.int (4 : Int32)), .val (.ref t4), .unset] [(.int (14 : Int32)), (.int (4 : Int32))])) _
      refine XS.icmpNo X169.here hx rfl (hb hby at_182) rfl (feq (by decide)).1 ?_
      show Steps p.tables e below (T162.setTop (mkF m 185 #[.val (.int p1), .val (.ref b1), .val (.int (4 : Int32)), .val (.ref t4), .unset] [])) _
      refine XS.iloadN X169.here hx rfl (hb hby at_185) rfl  ?_
      show Steps p.tables e below (T162.setTop (mkF m 186 #[.val (.int p1), .val (.ref b1), .val (.int (4 : Int32)), .val (.ref t4), .unset] [(.int (4 : Int32))])) _
      refine XS.bipush X169.here hx rfl (hb hby at_186) ?_
      show Steps p.tables e below (T162.setTop (mkF m 188 #[.val (.int p1), .val (.ref b1), .val (.int (4 : Int32)), .val (.ref t4), .unset] [(.int (17 : Int32)), (.int (4 : Int32))])) _
      refine XS.icmpNo X169.here hx rfl (hb hby at_188) rfl (feq (by decide)).1 ?_
      show Steps p.tables e below (T162.setTop (mkF m 191 #[.val (.int p1), .val (.ref b1), .val (.int (4 : Int32)), .val (.ref t4), .unset] [])) _
      refine XS.iloadN X169.here hx rfl (hb hby at_191) rfl  ?_
      show Steps p.tables e below (T162.setTop (mkF m 192 #[.val (.int p1), .val (.ref b1), .val (.int (4 : Int32)), .val (.ref t4), .unset] [(.int (4 : Int32))])) _
      refine XS.bipush X169.here hx rfl (hb hby at_192) ?_
      show Steps p.tables e below (T162.setTop (mkF m 194 #[.val (.int p1), .val (.ref b1), .val (.int (4 : Int32)), .val (.ref t4), .unset] [(.int (18 : Int32)), (.int (4 : Int32))])) _
      refine XS.icmpYes X169.here hx rfl (pc0 := 194) (pc' := 201) rfl (hb hby at_194) rfl (feq (by decide)).2 (by decide) (by decide) ?_
      show Steps p.tables e below (T162.setTop (mkF m 201 #[.val (.int p1), .val (.ref b1), .val (.int (4 : Int32)), .val (.ref t4), .unset] [])) _
      refine XS.iconst X169.here hx rfl (hb hby at_201) ?_
      show Steps p.tables e below (T162.setTop (mkF m 202 #[.val (.int p1), .val (.ref b1), .val (.int (4 : Int32)), .val (.ref t4), .unset] [(.int (0 : Int32))])) _
      refine XS.istore X169.here hx rfl (hb hby at_202) rfl (l' := #[.val (.int p1), .val (.ref b1), .val (.int (4 : Int32)), .val (.ref t4), .val (.int (0 : Int32))]) rfl ?_
      show Steps p.tables e below (T162.setTop (mkF m 204 #[.val (.int p1), .val (.ref b1), .val (.int (4 : Int32)), .val (.ref t4), .val (.int (0 : Int32))] [])) _
      refine XS.aloadN X169.here hx rfl (hb hby at_204) rfl rfl ?_
      show Steps p.tables e below (T162.setTop (mkF m 205 #[.val (.int p1), .val (.ref b1), .val (.int (4 : Int32)), .val (.ref t4), .val (.int (0 : Int32))] [(.ref t4)])) _
      refine st183.trans ?_
      show Steps p.tables e below (T183.setTop (mkF m 208 #[.val (.int p1), .val (.ref b1), .val (.int (4 : Int32)), .val (.ref t4), .val (.int (0 : Int32))] [(.int (0 : Int32))])) _
      refine XS.iload X183.here hx rfl (hb hby at_208) rfl  ?_
      show Steps p.tables e below (T183.setTop (mkF m 210 #[.val (.int p1), .val (.ref b1), .val (.int (4 : Int32)), .val (.ref t4), .val (.int (0 : Int32))] [(.int (0 : Int32)), (.int (0 : Int32))])) _
      refine XS.icmpNo X183.here hx rfl (hb hby at_210) rfl (teq (by decide)).2 ?_
      show Steps p.tables e below (T183.setTop (mkF m 213 #[.val (.int p1), .val (.ref b1), .val (.int (4 : Int32)), .val (.ref t4), .val (.int (0 : Int32))] [])) _
      refine XS.iconst X183.here hx rfl (hb hby at_213) ?_
      show Steps p.tables e below (T183.setTop (mkF m 214 #[.val (.int p1), .val (.ref b1), .val (.int (4 : Int32)), .val (.ref t4), .val (.int (0 : Int32))] [(.int (1 : Int32))])) _
      refine XS.goto X183.here hx rfl (pc0 := 214) (pc' := 218) rfl (hb hby at_214) (by decide) (by decide) ?_
      show Steps p.tables e below (T183.setTop (mkF m 218 #[.val (.int p1), .val (.ref b1), .val (.int (4 : Int32)), .val (.ref t4), .val (.int (0 : Int32))] [(.int (1 : Int32))])) _
      exact retN X183 hx (t := .boolean) Bd.returns (by simp) (hb hby at_218) hrZ
    · show Q0 Z p1 t0 t1 t2 t3 t4 t5 t6 t7 t8 t9 t10 t11 t12 t13 t14 t15 t16 t17 t18 t19 t20 t21 t22 h0 n0 _ T183.heap _
      rw [e183]
      exact ⟨rfl, N183⟩
  ·  -- 5
    obtain ⟨c185, Arc185, qc185, Sc185, Mc185, Hc185, Gc185⟩ := id V162
    have hinc185 : ¬ ((5 : Int32) < 0 ∨ c185.slots.size ≤ ((5 : Int32)).toNatClampNeg) := inb_of Sc185 ⟨by decide, by decide⟩
    have hatc185 : c185.slots[((5 : Int32)).toNatClampNeg]? = some (.ref t5) := Hc185.at hinc185 rfl
    have fa187 : Exa Z h162 t5 "com/example/hewgen/hewgen/model/ShapeType" := ((((((((((((((((((fa59.wr W60).wr W66).wr W72).wr W78).wr W84).wr W90).wr W96).wr W102).wr W108).wr W114).wr W120).wr W126).wr W132).wr W138).wr W144).wr W150).wr W156).wr W162)
    obtain ⟨cq186, kq186, q186a, q186b, q186c⟩ := isOf hZ e162 fa187
    obtain ⟨_, _, ⟨T186, L186, k186, n186⟩, -, X186, ⟨Lc186, hQ186, l186, y186, z186⟩, st186⟩ := X169.virtualBack hx (y := (⟨"com/example/hewgen/hewgen/model/ShapeType", "hasNamedMembers", "()Z"⟩ : MethodName)) (z := (⟨"com/example/hewgen/hewgen/model/ShapeType", "hasNamedMembers", "()Z"⟩ : MethodName)) hown (mvT hZ (ow hw 51 rfl)) (mvT hZ (ow hw 52 rfl)) (notFace_of_selects (args := #[]) (mvT hZ (ow hw 54 rfl))) (mvT hZ (ow hw 54 rfl)) (mvT hZ (ow hw 53 rfl)) (by decide) (backOf (W := 0) (rm1n l Z a0 hw [] t5 t17 t18 t13 t14 h162 n0 Z163 fa164 fa165 fa166 fa167 n5_17 n5_18 n5_13 n5_14) hZ (ow hw 55 rfl) (ow hw 3 rfl) (by decide) (by decide)) q186a q186c (g := (mkF m 205 #[.val (.int p1), .val (.ref b1), .val (.int (5 : Int32)), .val (.ref t5), .val (.int (0 : Int32))] [(.ref t5)])) rfl (by rw [hml]; rfl) (Steps.refl _) (argsL := []) (rest := []) (lenOf pd2 rfl) rfl (by show 2 * 0 + _ ≤ _; exact Nat.le_of_eq rfl) (hb hby at_205) (fun _ _ => ⟨rfl, e162, (by decide : 1 + 0 ≤ _), (by decide : 23 + 0 ≤ _)⟩)
    dsimp only [Pt.U, Pt.locs, Pt.cells, Pt.slots] at X186 l186 y186 z186 st186 hQ186
    subst l186 y186 z186
    obtain ⟨rfl, N186q, e186⟩ := hQ186
    have N186 := Fr.app N169 N186q
    obtain ⟨fsZ, hrZ, hrun, hended, hW, hsame⟩ := X186.leave (v := some (.int (1 : Int32))) (fun h => by rw [Bd.returns] at h; cases h)
    refine ⟨_, _, pre168 _ ?_, hrun, hended, _, _, rfl, ?_, ⟨_, rfl⟩, hW, hsame.mono (by decide) (by decide)⟩
    · show Steps p.tables e below (T162.setTop (mkF m 169 #[.val (.int p1), .val (.ref b1), .val (.int (5 : Int32)), .unset, .unset] [])) _
      refine XS.aloadN X169.here hx rfl (hb hby at_169) rfl rfl ?_
      show Steps p.tables e below (T162.setTop (mkF m 170 #[.val (.int p1), .val (.ref b1), .val (.int (5 : Int32)), .unset, .unset] [(.ref b1)])) _
      refine XS.iloadN X169.here hx rfl (hb hby at_170) rfl  ?_
      show Steps p.tables e below (T162.setTop (mkF m 171 #[.val (.int p1), .val (.ref b1), .val (.int (5 : Int32)), .unset, .unset] [(.int (5 : Int32)), (.ref b1)])) _
      refine X169.aaload hx (j := (5 : Int32)) (v := (.ref t5)) (by rw [e162]; exact Arc185.1) (State.isArrayOf_alike hZ.alike Arc185.2.1) rfl Arc185.2.2 hinc185 hatc185 (g := (mkF m 171 #[.val (.int p1), .val (.ref b1), .val (.int (5 : Int32)), .unset, .unset] [(.int (5 : Int32)), (.ref b1)])) rfl rfl (hb hby at_171) _ ?_
      show Steps p.tables e below (T162.setTop (mkF m 172 #[.val (.int p1), .val (.ref b1), .val (.int (5 : Int32)), .unset, .unset] [(.ref t5)])) _
      refine XS.astoreN X169.here hx rfl (hb hby at_172) rfl rfl (l' := #[.val (.int p1), .val (.ref b1), .val (.int (5 : Int32)), .val (.ref t5), .unset]) rfl ?_
      show Steps p.tables e below (T162.setTop (mkF m 173 #[.val (.int p1), .val (.ref b1), .val (.int (5 : Int32)), .val (.ref t5), .unset] [])) _
      refine XS.iloadN X169.here hx rfl (hb hby at_173) rfl  ?_
      show Steps p.tables e below (T162.setTop (mkF m 174 #[.val (.int p1), .val (.ref b1), .val (.int (5 : Int32)), .val (.ref t5), .unset] [(.int (5 : Int32))])) _
      refine XS.bipush X169.here hx rfl (hb hby at_174) ?_
      show Steps p.tables e below (T162.setTop (mkF m 176 #[.val (.int p1), .val (.ref b1), .val (.int (5 : Int32)), .val (.ref t5), .unset] [(.int (13 : Int32)), (.int (5 : Int32))])) _
      refine XS.icmpNo X169.here hx rfl (hb hby at_176) rfl (feq (by decide)).1 ?_
      show Steps p.tables e below (T162.setTop (mkF m 179 #[.val (.int p1), .val (.ref b1), .val (.int (5 : Int32)), .val (.ref t5), .unset] [])) _
      refine XS.iloadN X169.here hx rfl (hb hby at_179) rfl  ?_
      show Steps p.tables e below (T162.setTop (mkF m 180 #[.val (.int p1), .val (.ref b1), .val (.int (5 : Int32)), .val (.ref t5), .unset] [(.int (5 : Int32))])) _
      refine XS.bipush X169.here hx rfl (hb hby at_180) ?_
      show Steps p.tables e below (T162.setTop (mkF m 182 #[.val (.int p1), .val (.ref b1), .val (.int (5 : Int32)), .val (.ref t5), .unset] [(.int (14 : Int32)), (.int (5 : Int32))])) _
      refine XS.icmpNo X169.here hx rfl (hb hby at_182) rfl (feq (by decide)).1 ?_
      show Steps p.tables e below (T162.setTop (mkF m 185 #[.val (.int p1), .val (.ref b1), .val (.int (5 : Int32)), .val (.ref t5), .unset] [])) _
      refine XS.iloadN X169.here hx rfl (hb hby at_185) rfl  ?_
      show Steps p.tables e below (T162.setTop (mkF m 186 #[.val (.int p1), .val (.ref b1), .val (.int (5 : Int32)), .val (.ref t5), .unset] [(.int (5 : Int32))])) _
      refine XS.bipush X169.here hx rfl (hb hby at_186) ?_
      show Steps p.tables e below (T162.setTop (mkF m 188 #[.val (.int p1), .val (.ref b1), .val (.int (5 : Int32)), .val (.ref t5), .unset] [(.int (17 : Int32)), (.int (5 : Int32))])) _
      refine XS.icmpNo X169.here hx rfl (hb hby at_188) rfl (feq (by decide)).1 ?_
      show Steps p.tables e below (T162.setTop (mkF m 191 #[.val (.int p1), .val (.ref b1), .val (.int (5 : Int32)), .val (.ref t5), .unset] [])) _
      refine XS.iloadN X169.here hx rfl (hb hby at_191) rfl  ?_
      show Steps p.tables e below (T162.setTop (mkF m 192 #[.val (.int p1), .val (.ref b1), .val (.int (5 : Int32)), .val (.ref t5), .unset] [(.int (5 : Int32))])) _
      refine XS.bipush X169.here hx rfl (hb hby at_192) ?_
      show Steps p.tables e below (T162.setTop (mkF m 194 #[.val (.int p1), .val (.ref b1), .val (.int (5 : Int32)), .val (.ref t5), .unset] [(.int (18 : Int32)), (.int (5 : Int32))])) _
      refine XS.icmpYes X169.here hx rfl (pc0 := 194) (pc' := 201) rfl (hb hby at_194) rfl (feq (by decide)).2 (by decide) (by decide) ?_
      show Steps p.tables e below (T162.setTop (mkF m 201 #[.val (.int p1), .val (.ref b1), .val (.int (5 : Int32)), .val (.ref t5), .unset] [])) _
      refine XS.iconst X169.here hx rfl (hb hby at_201) ?_
      show Steps p.tables e below (T162.setTop (mkF m 202 #[.val (.int p1), .val (.ref b1), .val (.int (5 : Int32)), .val (.ref t5), .unset] [(.int (0 : Int32))])) _
      refine XS.istore X169.here hx rfl (hb hby at_202) rfl (l' := #[.val (.int p1), .val (.ref b1), .val (.int (5 : Int32)), .val (.ref t5), .val (.int (0 : Int32))]) rfl ?_
      show Steps p.tables e below (T162.setTop (mkF m 204 #[.val (.int p1), .val (.ref b1), .val (.int (5 : Int32)), .val (.ref t5), .val (.int (0 : Int32))] [])) _
      refine XS.aloadN X169.here hx rfl (hb hby at_204) rfl rfl ?_
      show Steps p.tables e below (T162.setTop (mkF m 205 #[.val (.int p1), .val (.ref b1), .val (.int (5 : Int32)), .val (.ref t5), .val (.int (0 : Int32))] [(.ref t5)])) _
      refine st186.trans ?_
      show Steps p.tables e below (T186.setTop (mkF m 208 #[.val (.int p1), .val (.ref b1), .val (.int (5 : Int32)), .val (.ref t5), .val (.int (0 : Int32))] [(.int (0 : Int32))])) _
      refine XS.iload X186.here hx rfl (hb hby at_208) rfl  ?_
      show Steps p.tables e below (T186.setTop (mkF m 210 #[.val (.int p1), .val (.ref b1), .val (.int (5 : Int32)), .val (.ref t5), .val (.int (0 : Int32))] [(.int (0 : Int32)), (.int (0 : Int32))])) _
      refine XS.icmpNo X186.here hx rfl (hb hby at_210) rfl (teq (by decide)).2 ?_
      show Steps p.tables e below (T186.setTop (mkF m 213 #[.val (.int p1), .val (.ref b1), .val (.int (5 : Int32)), .val (.ref t5), .val (.int (0 : Int32))] [])) _
      refine XS.iconst X186.here hx rfl (hb hby at_213) ?_
      show Steps p.tables e below (T186.setTop (mkF m 214 #[.val (.int p1), .val (.ref b1), .val (.int (5 : Int32)), .val (.ref t5), .val (.int (0 : Int32))] [(.int (1 : Int32))])) _
      refine XS.goto X186.here hx rfl (pc0 := 214) (pc' := 218) rfl (hb hby at_214) (by decide) (by decide) ?_
      show Steps p.tables e below (T186.setTop (mkF m 218 #[.val (.int p1), .val (.ref b1), .val (.int (5 : Int32)), .val (.ref t5), .val (.int (0 : Int32))] [(.int (1 : Int32))])) _
      exact retN X186 hx (t := .boolean) Bd.returns (by simp) (hb hby at_218) hrZ
    · show Q0 Z p1 t0 t1 t2 t3 t4 t5 t6 t7 t8 t9 t10 t11 t12 t13 t14 t15 t16 t17 t18 t19 t20 t21 t22 h0 n0 _ T186.heap _
      rw [e186]
      exact ⟨rfl, N186⟩
  ·  -- 6
    obtain ⟨c188, Arc188, qc188, Sc188, Mc188, Hc188, Gc188⟩ := id V162
    have hinc188 : ¬ ((6 : Int32) < 0 ∨ c188.slots.size ≤ ((6 : Int32)).toNatClampNeg) := inb_of Sc188 ⟨by decide, by decide⟩
    have hatc188 : c188.slots[((6 : Int32)).toNatClampNeg]? = some (.ref t6) := Hc188.at hinc188 rfl
    have fa190 : Exa Z h162 t6 "com/example/hewgen/hewgen/model/ShapeType" := (((((((((((((((((fa65.wr W66).wr W72).wr W78).wr W84).wr W90).wr W96).wr W102).wr W108).wr W114).wr W120).wr W126).wr W132).wr W138).wr W144).wr W150).wr W156).wr W162)
    obtain ⟨cq189, kq189, q189a, q189b, q189c⟩ := isOf hZ e162 fa190
    obtain ⟨_, _, ⟨T189, L189, k189, n189⟩, -, X189, ⟨Lc189, hQ189, l189, y189, z189⟩, st189⟩ := X169.virtualBack hx (y := (⟨"com/example/hewgen/hewgen/model/ShapeType", "hasNamedMembers", "()Z"⟩ : MethodName)) (z := (⟨"com/example/hewgen/hewgen/model/ShapeType", "hasNamedMembers", "()Z"⟩ : MethodName)) hown (mvT hZ (ow hw 51 rfl)) (mvT hZ (ow hw 52 rfl)) (notFace_of_selects (args := #[]) (mvT hZ (ow hw 54 rfl))) (mvT hZ (ow hw 54 rfl)) (mvT hZ (ow hw 53 rfl)) (by decide) (backOf (W := 0) (rm1n l Z a0 hw [] t6 t17 t18 t13 t14 h162 n0 Z163 fa164 fa165 fa166 fa167 n6_17 n6_18 n6_13 n6_14) hZ (ow hw 55 rfl) (ow hw 3 rfl) (by decide) (by decide)) q189a q189c (g := (mkF m 205 #[.val (.int p1), .val (.ref b1), .val (.int (6 : Int32)), .val (.ref t6), .val (.int (0 : Int32))] [(.ref t6)])) rfl (by rw [hml]; rfl) (Steps.refl _) (argsL := []) (rest := []) (lenOf pd2 rfl) rfl (by show 2 * 0 + _ ≤ _; exact Nat.le_of_eq rfl) (hb hby at_205) (fun _ _ => ⟨rfl, e162, (by decide : 1 + 0 ≤ _), (by decide : 23 + 0 ≤ _)⟩)
    dsimp only [Pt.U, Pt.locs, Pt.cells, Pt.slots] at X189 l189 y189 z189 st189 hQ189
    subst l189 y189 z189
    obtain ⟨rfl, N189q, e189⟩ := hQ189
    have N189 := Fr.app N169 N189q
    obtain ⟨fsZ, hrZ, hrun, hended, hW, hsame⟩ := X189.leave (v := some (.int (1 : Int32))) (fun h => by rw [Bd.returns] at h; cases h)
    refine ⟨_, _, pre168 _ ?_, hrun, hended, _, _, rfl, ?_, ⟨_, rfl⟩, hW, hsame.mono (by decide) (by decide)⟩
    · show Steps p.tables e below (T162.setTop (mkF m 169 #[.val (.int p1), .val (.ref b1), .val (.int (6 : Int32)), .unset, .unset] [])) _
      refine XS.aloadN X169.here hx rfl (hb hby at_169) rfl rfl ?_
      show Steps p.tables e below (T162.setTop (mkF m 170 #[.val (.int p1), .val (.ref b1), .val (.int (6 : Int32)), .unset, .unset] [(.ref b1)])) _
      refine XS.iloadN X169.here hx rfl (hb hby at_170) rfl  ?_
      show Steps p.tables e below (T162.setTop (mkF m 171 #[.val (.int p1), .val (.ref b1), .val (.int (6 : Int32)), .unset, .unset] [(.int (6 : Int32)), (.ref b1)])) _
      refine X169.aaload hx (j := (6 : Int32)) (v := (.ref t6)) (by rw [e162]; exact Arc188.1) (State.isArrayOf_alike hZ.alike Arc188.2.1) rfl Arc188.2.2 hinc188 hatc188 (g := (mkF m 171 #[.val (.int p1), .val (.ref b1), .val (.int (6 : Int32)), .unset, .unset] [(.int (6 : Int32)), (.ref b1)])) rfl rfl (hb hby at_171) _ ?_
      show Steps p.tables e below (T162.setTop (mkF m 172 #[.val (.int p1), .val (.ref b1), .val (.int (6 : Int32)), .unset, .unset] [(.ref t6)])) _
      refine XS.astoreN X169.here hx rfl (hb hby at_172) rfl rfl (l' := #[.val (.int p1), .val (.ref b1), .val (.int (6 : Int32)), .val (.ref t6), .unset]) rfl ?_
      show Steps p.tables e below (T162.setTop (mkF m 173 #[.val (.int p1), .val (.ref b1), .val (.int (6 : Int32)), .val (.ref t6), .unset] [])) _
      refine XS.iloadN X169.here hx rfl (hb hby at_173) rfl  ?_
      show Steps p.tables e below (T162.setTop (mkF m 174 #[.val (.int p1), .val (.ref b1), .val (.int (6 : Int32)), .val (.ref t6), .unset] [(.int (6 : Int32))])) _
      refine XS.bipush X169.here hx rfl (hb hby at_174) ?_
      show Steps p.tables e below (T162.setTop (mkF m 176 #[.val (.int p1), .val (.ref b1), .val (.int (6 : Int32)), .val (.ref t6), .unset] [(.int (13 : Int32)), (.int (6 : Int32))])) _
      refine XS.icmpNo X169.here hx rfl (hb hby at_176) rfl (feq (by decide)).1 ?_
      show Steps p.tables e below (T162.setTop (mkF m 179 #[.val (.int p1), .val (.ref b1), .val (.int (6 : Int32)), .val (.ref t6), .unset] [])) _
      refine XS.iloadN X169.here hx rfl (hb hby at_179) rfl  ?_
      show Steps p.tables e below (T162.setTop (mkF m 180 #[.val (.int p1), .val (.ref b1), .val (.int (6 : Int32)), .val (.ref t6), .unset] [(.int (6 : Int32))])) _
      refine XS.bipush X169.here hx rfl (hb hby at_180) ?_
      show Steps p.tables e below (T162.setTop (mkF m 182 #[.val (.int p1), .val (.ref b1), .val (.int (6 : Int32)), .val (.ref t6), .unset] [(.int (14 : Int32)), (.int (6 : Int32))])) _
      refine XS.icmpNo X169.here hx rfl (hb hby at_182) rfl (feq (by decide)).1 ?_
      show Steps p.tables e below (T162.setTop (mkF m 185 #[.val (.int p1), .val (.ref b1), .val (.int (6 : Int32)), .val (.ref t6), .unset] [])) _
      refine XS.iloadN X169.here hx rfl (hb hby at_185) rfl  ?_
      show Steps p.tables e below (T162.setTop (mkF m 186 #[.val (.int p1), .val (.ref b1), .val (.int (6 : Int32)), .val (.ref t6), .unset] [(.int (6 : Int32))])) _
      refine XS.bipush X169.here hx rfl (hb hby at_186) ?_
      show Steps p.tables e below (T162.setTop (mkF m 188 #[.val (.int p1), .val (.ref b1), .val (.int (6 : Int32)), .val (.ref t6), .unset] [(.int (17 : Int32)), (.int (6 : Int32))])) _
      refine XS.icmpNo X169.here hx rfl (hb hby at_188) rfl (feq (by decide)).1 ?_
      show Steps p.tables e below (T162.setTop (mkF m 191 #[.val (.int p1), .val (.ref b1), .val (.int (6 : Int32)), .val (.ref t6), .unset] [])) _
      refine XS.iloadN X169.here hx rfl (hb hby at_191) rfl  ?_
      show Steps p.tables e below (T162.setTop (mkF m 192 #[.val (.int p1), .val (.ref b1), .val (.int (6 : Int32)), .val (.ref t6), .unset] [(.int (6 : Int32))])) _
      refine XS.bipush X169.here hx rfl (hb hby at_192) ?_
      show Steps p.tables e below (T162.setTop (mkF m 194 #[.val (.int p1), .val (.ref b1), .val (.int (6 : Int32)), .val (.ref t6), .unset] [(.int (18 : Int32)), (.int (6 : Int32))])) _
      refine XS.icmpYes X169.here hx rfl (pc0 := 194) (pc' := 201) rfl (hb hby at_194) rfl (feq (by decide)).2 (by decide) (by decide) ?_
      show Steps p.tables e below (T162.setTop (mkF m 201 #[.val (.int p1), .val (.ref b1), .val (.int (6 : Int32)), .val (.ref t6), .unset] [])) _
      refine XS.iconst X169.here hx rfl (hb hby at_201) ?_
      show Steps p.tables e below (T162.setTop (mkF m 202 #[.val (.int p1), .val (.ref b1), .val (.int (6 : Int32)), .val (.ref t6), .unset] [(.int (0 : Int32))])) _
      refine XS.istore X169.here hx rfl (hb hby at_202) rfl (l' := #[.val (.int p1), .val (.ref b1), .val (.int (6 : Int32)), .val (.ref t6), .val (.int (0 : Int32))]) rfl ?_
      show Steps p.tables e below (T162.setTop (mkF m 204 #[.val (.int p1), .val (.ref b1), .val (.int (6 : Int32)), .val (.ref t6), .val (.int (0 : Int32))] [])) _
      refine XS.aloadN X169.here hx rfl (hb hby at_204) rfl rfl ?_
      show Steps p.tables e below (T162.setTop (mkF m 205 #[.val (.int p1), .val (.ref b1), .val (.int (6 : Int32)), .val (.ref t6), .val (.int (0 : Int32))] [(.ref t6)])) _
      refine st189.trans ?_
      show Steps p.tables e below (T189.setTop (mkF m 208 #[.val (.int p1), .val (.ref b1), .val (.int (6 : Int32)), .val (.ref t6), .val (.int (0 : Int32))] [(.int (0 : Int32))])) _
      refine XS.iload X189.here hx rfl (hb hby at_208) rfl  ?_
      show Steps p.tables e below (T189.setTop (mkF m 210 #[.val (.int p1), .val (.ref b1), .val (.int (6 : Int32)), .val (.ref t6), .val (.int (0 : Int32))] [(.int (0 : Int32)), (.int (0 : Int32))])) _
      refine XS.icmpNo X189.here hx rfl (hb hby at_210) rfl (teq (by decide)).2 ?_
      show Steps p.tables e below (T189.setTop (mkF m 213 #[.val (.int p1), .val (.ref b1), .val (.int (6 : Int32)), .val (.ref t6), .val (.int (0 : Int32))] [])) _
      refine XS.iconst X189.here hx rfl (hb hby at_213) ?_
      show Steps p.tables e below (T189.setTop (mkF m 214 #[.val (.int p1), .val (.ref b1), .val (.int (6 : Int32)), .val (.ref t6), .val (.int (0 : Int32))] [(.int (1 : Int32))])) _
      refine XS.goto X189.here hx rfl (pc0 := 214) (pc' := 218) rfl (hb hby at_214) (by decide) (by decide) ?_
      show Steps p.tables e below (T189.setTop (mkF m 218 #[.val (.int p1), .val (.ref b1), .val (.int (6 : Int32)), .val (.ref t6), .val (.int (0 : Int32))] [(.int (1 : Int32))])) _
      exact retN X189 hx (t := .boolean) Bd.returns (by simp) (hb hby at_218) hrZ
    · show Q0 Z p1 t0 t1 t2 t3 t4 t5 t6 t7 t8 t9 t10 t11 t12 t13 t14 t15 t16 t17 t18 t19 t20 t21 t22 h0 n0 _ T189.heap _
      rw [e189]
      exact ⟨rfl, N189⟩
  ·  -- 7
    obtain ⟨c191, Arc191, qc191, Sc191, Mc191, Hc191, Gc191⟩ := id V162
    have hinc191 : ¬ ((7 : Int32) < 0 ∨ c191.slots.size ≤ ((7 : Int32)).toNatClampNeg) := inb_of Sc191 ⟨by decide, by decide⟩
    have hatc191 : c191.slots[((7 : Int32)).toNatClampNeg]? = some (.ref t7) := Hc191.at hinc191 rfl
    have fa193 : Exa Z h162 t7 "com/example/hewgen/hewgen/model/ShapeType" := ((((((((((((((((fa71.wr W72).wr W78).wr W84).wr W90).wr W96).wr W102).wr W108).wr W114).wr W120).wr W126).wr W132).wr W138).wr W144).wr W150).wr W156).wr W162)
    obtain ⟨cq192, kq192, q192a, q192b, q192c⟩ := isOf hZ e162 fa193
    obtain ⟨_, _, ⟨T192, L192, k192, n192⟩, -, X192, ⟨Lc192, hQ192, l192, y192, z192⟩, st192⟩ := X169.virtualBack hx (y := (⟨"com/example/hewgen/hewgen/model/ShapeType", "hasNamedMembers", "()Z"⟩ : MethodName)) (z := (⟨"com/example/hewgen/hewgen/model/ShapeType", "hasNamedMembers", "()Z"⟩ : MethodName)) hown (mvT hZ (ow hw 51 rfl)) (mvT hZ (ow hw 52 rfl)) (notFace_of_selects (args := #[]) (mvT hZ (ow hw 54 rfl))) (mvT hZ (ow hw 54 rfl)) (mvT hZ (ow hw 53 rfl)) (by decide) (backOf (W := 0) (rm1n l Z a0 hw [] t7 t17 t18 t13 t14 h162 n0 Z163 fa164 fa165 fa166 fa167 n7_17 n7_18 n7_13 n7_14) hZ (ow hw 55 rfl) (ow hw 3 rfl) (by decide) (by decide)) q192a q192c (g := (mkF m 205 #[.val (.int p1), .val (.ref b1), .val (.int (7 : Int32)), .val (.ref t7), .val (.int (0 : Int32))] [(.ref t7)])) rfl (by rw [hml]; rfl) (Steps.refl _) (argsL := []) (rest := []) (lenOf pd2 rfl) rfl (by show 2 * 0 + _ ≤ _; exact Nat.le_of_eq rfl) (hb hby at_205) (fun _ _ => ⟨rfl, e162, (by decide : 1 + 0 ≤ _), (by decide : 23 + 0 ≤ _)⟩)
    dsimp only [Pt.U, Pt.locs, Pt.cells, Pt.slots] at X192 l192 y192 z192 st192 hQ192
    subst l192 y192 z192
    obtain ⟨rfl, N192q, e192⟩ := hQ192
    have N192 := Fr.app N169 N192q
    obtain ⟨fsZ, hrZ, hrun, hended, hW, hsame⟩ := X192.leave (v := some (.int (1 : Int32))) (fun h => by rw [Bd.returns] at h; cases h)
    refine ⟨_, _, pre168 _ ?_, hrun, hended, _, _, rfl, ?_, ⟨_, rfl⟩, hW, hsame.mono (by decide) (by decide)⟩
    · show Steps p.tables e below (T162.setTop (mkF m 169 #[.val (.int p1), .val (.ref b1), .val (.int (7 : Int32)), .unset, .unset] [])) _
      refine XS.aloadN X169.here hx rfl (hb hby at_169) rfl rfl ?_
      show Steps p.tables e below (T162.setTop (mkF m 170 #[.val (.int p1), .val (.ref b1), .val (.int (7 : Int32)), .unset, .unset] [(.ref b1)])) _
      refine XS.iloadN X169.here hx rfl (hb hby at_170) rfl  ?_
      show Steps p.tables e below (T162.setTop (mkF m 171 #[.val (.int p1), .val (.ref b1), .val (.int (7 : Int32)), .unset, .unset] [(.int (7 : Int32)), (.ref b1)])) _
      refine X169.aaload hx (j := (7 : Int32)) (v := (.ref t7)) (by rw [e162]; exact Arc191.1) (State.isArrayOf_alike hZ.alike Arc191.2.1) rfl Arc191.2.2 hinc191 hatc191 (g := (mkF m 171 #[.val (.int p1), .val (.ref b1), .val (.int (7 : Int32)), .unset, .unset] [(.int (7 : Int32)), (.ref b1)])) rfl rfl (hb hby at_171) _ ?_
      show Steps p.tables e below (T162.setTop (mkF m 172 #[.val (.int p1), .val (.ref b1), .val (.int (7 : Int32)), .unset, .unset] [(.ref t7)])) _
      refine XS.astoreN X169.here hx rfl (hb hby at_172) rfl rfl (l' := #[.val (.int p1), .val (.ref b1), .val (.int (7 : Int32)), .val (.ref t7), .unset]) rfl ?_
      show Steps p.tables e below (T162.setTop (mkF m 173 #[.val (.int p1), .val (.ref b1), .val (.int (7 : Int32)), .val (.ref t7), .unset] [])) _
      refine XS.iloadN X169.here hx rfl (hb hby at_173) rfl  ?_
      show Steps p.tables e below (T162.setTop (mkF m 174 #[.val (.int p1), .val (.ref b1), .val (.int (7 : Int32)), .val (.ref t7), .unset] [(.int (7 : Int32))])) _
      refine XS.bipush X169.here hx rfl (hb hby at_174) ?_
      show Steps p.tables e below (T162.setTop (mkF m 176 #[.val (.int p1), .val (.ref b1), .val (.int (7 : Int32)), .val (.ref t7), .unset] [(.int (13 : Int32)), (.int (7 : Int32))])) _
      refine XS.icmpNo X169.here hx rfl (hb hby at_176) rfl (feq (by decide)).1 ?_
      show Steps p.tables e below (T162.setTop (mkF m 179 #[.val (.int p1), .val (.ref b1), .val (.int (7 : Int32)), .val (.ref t7), .unset] [])) _
      refine XS.iloadN X169.here hx rfl (hb hby at_179) rfl  ?_
      show Steps p.tables e below (T162.setTop (mkF m 180 #[.val (.int p1), .val (.ref b1), .val (.int (7 : Int32)), .val (.ref t7), .unset] [(.int (7 : Int32))])) _
      refine XS.bipush X169.here hx rfl (hb hby at_180) ?_
      show Steps p.tables e below (T162.setTop (mkF m 182 #[.val (.int p1), .val (.ref b1), .val (.int (7 : Int32)), .val (.ref t7), .unset] [(.int (14 : Int32)), (.int (7 : Int32))])) _
      refine XS.icmpNo X169.here hx rfl (hb hby at_182) rfl (feq (by decide)).1 ?_
      show Steps p.tables e below (T162.setTop (mkF m 185 #[.val (.int p1), .val (.ref b1), .val (.int (7 : Int32)), .val (.ref t7), .unset] [])) _
      refine XS.iloadN X169.here hx rfl (hb hby at_185) rfl  ?_
      show Steps p.tables e below (T162.setTop (mkF m 186 #[.val (.int p1), .val (.ref b1), .val (.int (7 : Int32)), .val (.ref t7), .unset] [(.int (7 : Int32))])) _
      refine XS.bipush X169.here hx rfl (hb hby at_186) ?_
      show Steps p.tables e below (T162.setTop (mkF m 188 #[.val (.int p1), .val (.ref b1), .val (.int (7 : Int32)), .val (.ref t7), .unset] [(.int (17 : Int32)), (.int (7 : Int32))])) _
      refine XS.icmpNo X169.here hx rfl (hb hby at_188) rfl (feq (by decide)).1 ?_
      show Steps p.tables e below (T162.setTop (mkF m 191 #[.val (.int p1), .val (.ref b1), .val (.int (7 : Int32)), .val (.ref t7), .unset] [])) _
      refine XS.iloadN X169.here hx rfl (hb hby at_191) rfl  ?_
      show Steps p.tables e below (T162.setTop (mkF m 192 #[.val (.int p1), .val (.ref b1), .val (.int (7 : Int32)), .val (.ref t7), .unset] [(.int (7 : Int32))])) _
      refine XS.bipush X169.here hx rfl (hb hby at_192) ?_
      show Steps p.tables e below (T162.setTop (mkF m 194 #[.val (.int p1), .val (.ref b1), .val (.int (7 : Int32)), .val (.ref t7), .unset] [(.int (18 : Int32)), (.int (7 : Int32))])) _
      refine XS.icmpYes X169.here hx rfl (pc0 := 194) (pc' := 201) rfl (hb hby at_194) rfl (feq (by decide)).2 (by decide) (by decide) ?_
      show Steps p.tables e below (T162.setTop (mkF m 201 #[.val (.int p1), .val (.ref b1), .val (.int (7 : Int32)), .val (.ref t7), .unset] [])) _
      refine XS.iconst X169.here hx rfl (hb hby at_201) ?_
      show Steps p.tables e below (T162.setTop (mkF m 202 #[.val (.int p1), .val (.ref b1), .val (.int (7 : Int32)), .val (.ref t7), .unset] [(.int (0 : Int32))])) _
      refine XS.istore X169.here hx rfl (hb hby at_202) rfl (l' := #[.val (.int p1), .val (.ref b1), .val (.int (7 : Int32)), .val (.ref t7), .val (.int (0 : Int32))]) rfl ?_
      show Steps p.tables e below (T162.setTop (mkF m 204 #[.val (.int p1), .val (.ref b1), .val (.int (7 : Int32)), .val (.ref t7), .val (.int (0 : Int32))] [])) _
      refine XS.aloadN X169.here hx rfl (hb hby at_204) rfl rfl ?_
      show Steps p.tables e below (T162.setTop (mkF m 205 #[.val (.int p1), .val (.ref b1), .val (.int (7 : Int32)), .val (.ref t7), .val (.int (0 : Int32))] [(.ref t7)])) _
      refine st192.trans ?_
      show Steps p.tables e below (T192.setTop (mkF m 208 #[.val (.int p1), .val (.ref b1), .val (.int (7 : Int32)), .val (.ref t7), .val (.int (0 : Int32))] [(.int (0 : Int32))])) _
      refine XS.iload X192.here hx rfl (hb hby at_208) rfl  ?_
      show Steps p.tables e below (T192.setTop (mkF m 210 #[.val (.int p1), .val (.ref b1), .val (.int (7 : Int32)), .val (.ref t7), .val (.int (0 : Int32))] [(.int (0 : Int32)), (.int (0 : Int32))])) _
      refine XS.icmpNo X192.here hx rfl (hb hby at_210) rfl (teq (by decide)).2 ?_
      show Steps p.tables e below (T192.setTop (mkF m 213 #[.val (.int p1), .val (.ref b1), .val (.int (7 : Int32)), .val (.ref t7), .val (.int (0 : Int32))] [])) _
      refine XS.iconst X192.here hx rfl (hb hby at_213) ?_
      show Steps p.tables e below (T192.setTop (mkF m 214 #[.val (.int p1), .val (.ref b1), .val (.int (7 : Int32)), .val (.ref t7), .val (.int (0 : Int32))] [(.int (1 : Int32))])) _
      refine XS.goto X192.here hx rfl (pc0 := 214) (pc' := 218) rfl (hb hby at_214) (by decide) (by decide) ?_
      show Steps p.tables e below (T192.setTop (mkF m 218 #[.val (.int p1), .val (.ref b1), .val (.int (7 : Int32)), .val (.ref t7), .val (.int (0 : Int32))] [(.int (1 : Int32))])) _
      exact retN X192 hx (t := .boolean) Bd.returns (by simp) (hb hby at_218) hrZ
    · show Q0 Z p1 t0 t1 t2 t3 t4 t5 t6 t7 t8 t9 t10 t11 t12 t13 t14 t15 t16 t17 t18 t19 t20 t21 t22 h0 n0 _ T192.heap _
      rw [e192]
      exact ⟨rfl, N192⟩
  ·  -- 8
    obtain ⟨c194, Arc194, qc194, Sc194, Mc194, Hc194, Gc194⟩ := id V162
    have hinc194 : ¬ ((8 : Int32) < 0 ∨ c194.slots.size ≤ ((8 : Int32)).toNatClampNeg) := inb_of Sc194 ⟨by decide, by decide⟩
    have hatc194 : c194.slots[((8 : Int32)).toNatClampNeg]? = some (.ref t8) := Hc194.at hinc194 rfl
    have fa196 : Exa Z h162 t8 "com/example/hewgen/hewgen/model/ShapeType" := (((((((((((((((fa77.wr W78).wr W84).wr W90).wr W96).wr W102).wr W108).wr W114).wr W120).wr W126).wr W132).wr W138).wr W144).wr W150).wr W156).wr W162)
    obtain ⟨cq195, kq195, q195a, q195b, q195c⟩ := isOf hZ e162 fa196
    obtain ⟨_, _, ⟨T195, L195, k195, n195⟩, -, X195, ⟨Lc195, hQ195, l195, y195, z195⟩, st195⟩ := X169.virtualBack hx (y := (⟨"com/example/hewgen/hewgen/model/ShapeType", "hasNamedMembers", "()Z"⟩ : MethodName)) (z := (⟨"com/example/hewgen/hewgen/model/ShapeType", "hasNamedMembers", "()Z"⟩ : MethodName)) hown (mvT hZ (ow hw 51 rfl)) (mvT hZ (ow hw 52 rfl)) (notFace_of_selects (args := #[]) (mvT hZ (ow hw 54 rfl))) (mvT hZ (ow hw 54 rfl)) (mvT hZ (ow hw 53 rfl)) (by decide) (backOf (W := 0) (rm1n l Z a0 hw [] t8 t17 t18 t13 t14 h162 n0 Z163 fa164 fa165 fa166 fa167 n8_17 n8_18 n8_13 n8_14) hZ (ow hw 55 rfl) (ow hw 3 rfl) (by decide) (by decide)) q195a q195c (g := (mkF m 205 #[.val (.int p1), .val (.ref b1), .val (.int (8 : Int32)), .val (.ref t8), .val (.int (0 : Int32))] [(.ref t8)])) rfl (by rw [hml]; rfl) (Steps.refl _) (argsL := []) (rest := []) (lenOf pd2 rfl) rfl (by show 2 * 0 + _ ≤ _; exact Nat.le_of_eq rfl) (hb hby at_205) (fun _ _ => ⟨rfl, e162, (by decide : 1 + 0 ≤ _), (by decide : 23 + 0 ≤ _)⟩)
    dsimp only [Pt.U, Pt.locs, Pt.cells, Pt.slots] at X195 l195 y195 z195 st195 hQ195
    subst l195 y195 z195
    obtain ⟨rfl, N195q, e195⟩ := hQ195
    have N195 := Fr.app N169 N195q
    obtain ⟨fsZ, hrZ, hrun, hended, hW, hsame⟩ := X195.leave (v := some (.int (1 : Int32))) (fun h => by rw [Bd.returns] at h; cases h)
    refine ⟨_, _, pre168 _ ?_, hrun, hended, _, _, rfl, ?_, ⟨_, rfl⟩, hW, hsame.mono (by decide) (by decide)⟩
    · show Steps p.tables e below (T162.setTop (mkF m 169 #[.val (.int p1), .val (.ref b1), .val (.int (8 : Int32)), .unset, .unset] [])) _
      refine XS.aloadN X169.here hx rfl (hb hby at_169) rfl rfl ?_
      show Steps p.tables e below (T162.setTop (mkF m 170 #[.val (.int p1), .val (.ref b1), .val (.int (8 : Int32)), .unset, .unset] [(.ref b1)])) _
      refine XS.iloadN X169.here hx rfl (hb hby at_170) rfl  ?_
      show Steps p.tables e below (T162.setTop (mkF m 171 #[.val (.int p1), .val (.ref b1), .val (.int (8 : Int32)), .unset, .unset] [(.int (8 : Int32)), (.ref b1)])) _
      refine X169.aaload hx (j := (8 : Int32)) (v := (.ref t8)) (by rw [e162]; exact Arc194.1) (State.isArrayOf_alike hZ.alike Arc194.2.1) rfl Arc194.2.2 hinc194 hatc194 (g := (mkF m 171 #[.val (.int p1), .val (.ref b1), .val (.int (8 : Int32)), .unset, .unset] [(.int (8 : Int32)), (.ref b1)])) rfl rfl (hb hby at_171) _ ?_
      show Steps p.tables e below (T162.setTop (mkF m 172 #[.val (.int p1), .val (.ref b1), .val (.int (8 : Int32)), .unset, .unset] [(.ref t8)])) _
      refine XS.astoreN X169.here hx rfl (hb hby at_172) rfl rfl (l' := #[.val (.int p1), .val (.ref b1), .val (.int (8 : Int32)), .val (.ref t8), .unset]) rfl ?_
      show Steps p.tables e below (T162.setTop (mkF m 173 #[.val (.int p1), .val (.ref b1), .val (.int (8 : Int32)), .val (.ref t8), .unset] [])) _
      refine XS.iloadN X169.here hx rfl (hb hby at_173) rfl  ?_
      show Steps p.tables e below (T162.setTop (mkF m 174 #[.val (.int p1), .val (.ref b1), .val (.int (8 : Int32)), .val (.ref t8), .unset] [(.int (8 : Int32))])) _
      refine XS.bipush X169.here hx rfl (hb hby at_174) ?_
      show Steps p.tables e below (T162.setTop (mkF m 176 #[.val (.int p1), .val (.ref b1), .val (.int (8 : Int32)), .val (.ref t8), .unset] [(.int (13 : Int32)), (.int (8 : Int32))])) _
      refine XS.icmpNo X169.here hx rfl (hb hby at_176) rfl (feq (by decide)).1 ?_
      show Steps p.tables e below (T162.setTop (mkF m 179 #[.val (.int p1), .val (.ref b1), .val (.int (8 : Int32)), .val (.ref t8), .unset] [])) _
      refine XS.iloadN X169.here hx rfl (hb hby at_179) rfl  ?_
      show Steps p.tables e below (T162.setTop (mkF m 180 #[.val (.int p1), .val (.ref b1), .val (.int (8 : Int32)), .val (.ref t8), .unset] [(.int (8 : Int32))])) _
      refine XS.bipush X169.here hx rfl (hb hby at_180) ?_
      show Steps p.tables e below (T162.setTop (mkF m 182 #[.val (.int p1), .val (.ref b1), .val (.int (8 : Int32)), .val (.ref t8), .unset] [(.int (14 : Int32)), (.int (8 : Int32))])) _
      refine XS.icmpNo X169.here hx rfl (hb hby at_182) rfl (feq (by decide)).1 ?_
      show Steps p.tables e below (T162.setTop (mkF m 185 #[.val (.int p1), .val (.ref b1), .val (.int (8 : Int32)), .val (.ref t8), .unset] [])) _
      refine XS.iloadN X169.here hx rfl (hb hby at_185) rfl  ?_
      show Steps p.tables e below (T162.setTop (mkF m 186 #[.val (.int p1), .val (.ref b1), .val (.int (8 : Int32)), .val (.ref t8), .unset] [(.int (8 : Int32))])) _
      refine XS.bipush X169.here hx rfl (hb hby at_186) ?_
      show Steps p.tables e below (T162.setTop (mkF m 188 #[.val (.int p1), .val (.ref b1), .val (.int (8 : Int32)), .val (.ref t8), .unset] [(.int (17 : Int32)), (.int (8 : Int32))])) _
      refine XS.icmpNo X169.here hx rfl (hb hby at_188) rfl (feq (by decide)).1 ?_
      show Steps p.tables e below (T162.setTop (mkF m 191 #[.val (.int p1), .val (.ref b1), .val (.int (8 : Int32)), .val (.ref t8), .unset] [])) _
      refine XS.iloadN X169.here hx rfl (hb hby at_191) rfl  ?_
      show Steps p.tables e below (T162.setTop (mkF m 192 #[.val (.int p1), .val (.ref b1), .val (.int (8 : Int32)), .val (.ref t8), .unset] [(.int (8 : Int32))])) _
      refine XS.bipush X169.here hx rfl (hb hby at_192) ?_
      show Steps p.tables e below (T162.setTop (mkF m 194 #[.val (.int p1), .val (.ref b1), .val (.int (8 : Int32)), .val (.ref t8), .unset] [(.int (18 : Int32)), (.int (8 : Int32))])) _
      refine XS.icmpYes X169.here hx rfl (pc0 := 194) (pc' := 201) rfl (hb hby at_194) rfl (feq (by decide)).2 (by decide) (by decide) ?_
      show Steps p.tables e below (T162.setTop (mkF m 201 #[.val (.int p1), .val (.ref b1), .val (.int (8 : Int32)), .val (.ref t8), .unset] [])) _
      refine XS.iconst X169.here hx rfl (hb hby at_201) ?_
      show Steps p.tables e below (T162.setTop (mkF m 202 #[.val (.int p1), .val (.ref b1), .val (.int (8 : Int32)), .val (.ref t8), .unset] [(.int (0 : Int32))])) _
      refine XS.istore X169.here hx rfl (hb hby at_202) rfl (l' := #[.val (.int p1), .val (.ref b1), .val (.int (8 : Int32)), .val (.ref t8), .val (.int (0 : Int32))]) rfl ?_
      show Steps p.tables e below (T162.setTop (mkF m 204 #[.val (.int p1), .val (.ref b1), .val (.int (8 : Int32)), .val (.ref t8), .val (.int (0 : Int32))] [])) _
      refine XS.aloadN X169.here hx rfl (hb hby at_204) rfl rfl ?_
      show Steps p.tables e below (T162.setTop (mkF m 205 #[.val (.int p1), .val (.ref b1), .val (.int (8 : Int32)), .val (.ref t8), .val (.int (0 : Int32))] [(.ref t8)])) _
      refine st195.trans ?_
      show Steps p.tables e below (T195.setTop (mkF m 208 #[.val (.int p1), .val (.ref b1), .val (.int (8 : Int32)), .val (.ref t8), .val (.int (0 : Int32))] [(.int (0 : Int32))])) _
      refine XS.iload X195.here hx rfl (hb hby at_208) rfl  ?_
      show Steps p.tables e below (T195.setTop (mkF m 210 #[.val (.int p1), .val (.ref b1), .val (.int (8 : Int32)), .val (.ref t8), .val (.int (0 : Int32))] [(.int (0 : Int32)), (.int (0 : Int32))])) _
      refine XS.icmpNo X195.here hx rfl (hb hby at_210) rfl (teq (by decide)).2 ?_
      show Steps p.tables e below (T195.setTop (mkF m 213 #[.val (.int p1), .val (.ref b1), .val (.int (8 : Int32)), .val (.ref t8), .val (.int (0 : Int32))] [])) _
      refine XS.iconst X195.here hx rfl (hb hby at_213) ?_
      show Steps p.tables e below (T195.setTop (mkF m 214 #[.val (.int p1), .val (.ref b1), .val (.int (8 : Int32)), .val (.ref t8), .val (.int (0 : Int32))] [(.int (1 : Int32))])) _
      refine XS.goto X195.here hx rfl (pc0 := 214) (pc' := 218) rfl (hb hby at_214) (by decide) (by decide) ?_
      show Steps p.tables e below (T195.setTop (mkF m 218 #[.val (.int p1), .val (.ref b1), .val (.int (8 : Int32)), .val (.ref t8), .val (.int (0 : Int32))] [(.int (1 : Int32))])) _
      exact retN X195 hx (t := .boolean) Bd.returns (by simp) (hb hby at_218) hrZ
    · show Q0 Z p1 t0 t1 t2 t3 t4 t5 t6 t7 t8 t9 t10 t11 t12 t13 t14 t15 t16 t17 t18 t19 t20 t21 t22 h0 n0 _ T195.heap _
      rw [e195]
      exact ⟨rfl, N195⟩
  ·  -- 9
    obtain ⟨c197, Arc197, qc197, Sc197, Mc197, Hc197, Gc197⟩ := id V162
    have hinc197 : ¬ ((9 : Int32) < 0 ∨ c197.slots.size ≤ ((9 : Int32)).toNatClampNeg) := inb_of Sc197 ⟨by decide, by decide⟩
    have hatc197 : c197.slots[((9 : Int32)).toNatClampNeg]? = some (.ref t9) := Hc197.at hinc197 rfl
    have fa199 : Exa Z h162 t9 "com/example/hewgen/hewgen/model/ShapeType" := ((((((((((((((fa83.wr W84).wr W90).wr W96).wr W102).wr W108).wr W114).wr W120).wr W126).wr W132).wr W138).wr W144).wr W150).wr W156).wr W162)
    obtain ⟨cq198, kq198, q198a, q198b, q198c⟩ := isOf hZ e162 fa199
    obtain ⟨_, _, ⟨T198, L198, k198, n198⟩, -, X198, ⟨Lc198, hQ198, l198, y198, z198⟩, st198⟩ := X169.virtualBack hx (y := (⟨"com/example/hewgen/hewgen/model/ShapeType", "hasNamedMembers", "()Z"⟩ : MethodName)) (z := (⟨"com/example/hewgen/hewgen/model/ShapeType", "hasNamedMembers", "()Z"⟩ : MethodName)) hown (mvT hZ (ow hw 51 rfl)) (mvT hZ (ow hw 52 rfl)) (notFace_of_selects (args := #[]) (mvT hZ (ow hw 54 rfl))) (mvT hZ (ow hw 54 rfl)) (mvT hZ (ow hw 53 rfl)) (by decide) (backOf (W := 0) (rm1n l Z a0 hw [] t9 t17 t18 t13 t14 h162 n0 Z163 fa164 fa165 fa166 fa167 n9_17 n9_18 n9_13 n9_14) hZ (ow hw 55 rfl) (ow hw 3 rfl) (by decide) (by decide)) q198a q198c (g := (mkF m 205 #[.val (.int p1), .val (.ref b1), .val (.int (9 : Int32)), .val (.ref t9), .val (.int (0 : Int32))] [(.ref t9)])) rfl (by rw [hml]; rfl) (Steps.refl _) (argsL := []) (rest := []) (lenOf pd2 rfl) rfl (by show 2 * 0 + _ ≤ _; exact Nat.le_of_eq rfl) (hb hby at_205) (fun _ _ => ⟨rfl, e162, (by decide : 1 + 0 ≤ _), (by decide : 23 + 0 ≤ _)⟩)
    dsimp only [Pt.U, Pt.locs, Pt.cells, Pt.slots] at X198 l198 y198 z198 st198 hQ198
    subst l198 y198 z198
    obtain ⟨rfl, N198q, e198⟩ := hQ198
    have N198 := Fr.app N169 N198q
    obtain ⟨fsZ, hrZ, hrun, hended, hW, hsame⟩ := X198.leave (v := some (.int (1 : Int32))) (fun h => by rw [Bd.returns] at h; cases h)
    refine ⟨_, _, pre168 _ ?_, hrun, hended, _, _, rfl, ?_, ⟨_, rfl⟩, hW, hsame.mono (by decide) (by decide)⟩
    · show Steps p.tables e below (T162.setTop (mkF m 169 #[.val (.int p1), .val (.ref b1), .val (.int (9 : Int32)), .unset, .unset] [])) _
      refine XS.aloadN X169.here hx rfl (hb hby at_169) rfl rfl ?_
      show Steps p.tables e below (T162.setTop (mkF m 170 #[.val (.int p1), .val (.ref b1), .val (.int (9 : Int32)), .unset, .unset] [(.ref b1)])) _
      refine XS.iloadN X169.here hx rfl (hb hby at_170) rfl  ?_
      show Steps p.tables e below (T162.setTop (mkF m 171 #[.val (.int p1), .val (.ref b1), .val (.int (9 : Int32)), .unset, .unset] [(.int (9 : Int32)), (.ref b1)])) _
      refine X169.aaload hx (j := (9 : Int32)) (v := (.ref t9)) (by rw [e162]; exact Arc197.1) (State.isArrayOf_alike hZ.alike Arc197.2.1) rfl Arc197.2.2 hinc197 hatc197 (g := (mkF m 171 #[.val (.int p1), .val (.ref b1), .val (.int (9 : Int32)), .unset, .unset] [(.int (9 : Int32)), (.ref b1)])) rfl rfl (hb hby at_171) _ ?_
      show Steps p.tables e below (T162.setTop (mkF m 172 #[.val (.int p1), .val (.ref b1), .val (.int (9 : Int32)), .unset, .unset] [(.ref t9)])) _
      refine XS.astoreN X169.here hx rfl (hb hby at_172) rfl rfl (l' := #[.val (.int p1), .val (.ref b1), .val (.int (9 : Int32)), .val (.ref t9), .unset]) rfl ?_
      show Steps p.tables e below (T162.setTop (mkF m 173 #[.val (.int p1), .val (.ref b1), .val (.int (9 : Int32)), .val (.ref t9), .unset] [])) _
      refine XS.iloadN X169.here hx rfl (hb hby at_173) rfl  ?_
      show Steps p.tables e below (T162.setTop (mkF m 174 #[.val (.int p1), .val (.ref b1), .val (.int (9 : Int32)), .val (.ref t9), .unset] [(.int (9 : Int32))])) _
      refine XS.bipush X169.here hx rfl (hb hby at_174) ?_
      show Steps p.tables e below (T162.setTop (mkF m 176 #[.val (.int p1), .val (.ref b1), .val (.int (9 : Int32)), .val (.ref t9), .unset] [(.int (13 : Int32)), (.int (9 : Int32))])) _
      refine XS.icmpNo X169.here hx rfl (hb hby at_176) rfl (feq (by decide)).1 ?_
      show Steps p.tables e below (T162.setTop (mkF m 179 #[.val (.int p1), .val (.ref b1), .val (.int (9 : Int32)), .val (.ref t9), .unset] [])) _
      refine XS.iloadN X169.here hx rfl (hb hby at_179) rfl  ?_
      show Steps p.tables e below (T162.setTop (mkF m 180 #[.val (.int p1), .val (.ref b1), .val (.int (9 : Int32)), .val (.ref t9), .unset] [(.int (9 : Int32))])) _
      refine XS.bipush X169.here hx rfl (hb hby at_180) ?_
      show Steps p.tables e below (T162.setTop (mkF m 182 #[.val (.int p1), .val (.ref b1), .val (.int (9 : Int32)), .val (.ref t9), .unset] [(.int (14 : Int32)), (.int (9 : Int32))])) _
      refine XS.icmpNo X169.here hx rfl (hb hby at_182) rfl (feq (by decide)).1 ?_
      show Steps p.tables e below (T162.setTop (mkF m 185 #[.val (.int p1), .val (.ref b1), .val (.int (9 : Int32)), .val (.ref t9), .unset] [])) _
      refine XS.iloadN X169.here hx rfl (hb hby at_185) rfl  ?_
      show Steps p.tables e below (T162.setTop (mkF m 186 #[.val (.int p1), .val (.ref b1), .val (.int (9 : Int32)), .val (.ref t9), .unset] [(.int (9 : Int32))])) _
      refine XS.bipush X169.here hx rfl (hb hby at_186) ?_
      show Steps p.tables e below (T162.setTop (mkF m 188 #[.val (.int p1), .val (.ref b1), .val (.int (9 : Int32)), .val (.ref t9), .unset] [(.int (17 : Int32)), (.int (9 : Int32))])) _
      refine XS.icmpNo X169.here hx rfl (hb hby at_188) rfl (feq (by decide)).1 ?_
      show Steps p.tables e below (T162.setTop (mkF m 191 #[.val (.int p1), .val (.ref b1), .val (.int (9 : Int32)), .val (.ref t9), .unset] [])) _
      refine XS.iloadN X169.here hx rfl (hb hby at_191) rfl  ?_
      show Steps p.tables e below (T162.setTop (mkF m 192 #[.val (.int p1), .val (.ref b1), .val (.int (9 : Int32)), .val (.ref t9), .unset] [(.int (9 : Int32))])) _
      refine XS.bipush X169.here hx rfl (hb hby at_192) ?_
      show Steps p.tables e below (T162.setTop (mkF m 194 #[.val (.int p1), .val (.ref b1), .val (.int (9 : Int32)), .val (.ref t9), .unset] [(.int (18 : Int32)), (.int (9 : Int32))])) _
      refine XS.icmpYes X169.here hx rfl (pc0 := 194) (pc' := 201) rfl (hb hby at_194) rfl (feq (by decide)).2 (by decide) (by decide) ?_
      show Steps p.tables e below (T162.setTop (mkF m 201 #[.val (.int p1), .val (.ref b1), .val (.int (9 : Int32)), .val (.ref t9), .unset] [])) _
      refine XS.iconst X169.here hx rfl (hb hby at_201) ?_
      show Steps p.tables e below (T162.setTop (mkF m 202 #[.val (.int p1), .val (.ref b1), .val (.int (9 : Int32)), .val (.ref t9), .unset] [(.int (0 : Int32))])) _
      refine XS.istore X169.here hx rfl (hb hby at_202) rfl (l' := #[.val (.int p1), .val (.ref b1), .val (.int (9 : Int32)), .val (.ref t9), .val (.int (0 : Int32))]) rfl ?_
      show Steps p.tables e below (T162.setTop (mkF m 204 #[.val (.int p1), .val (.ref b1), .val (.int (9 : Int32)), .val (.ref t9), .val (.int (0 : Int32))] [])) _
      refine XS.aloadN X169.here hx rfl (hb hby at_204) rfl rfl ?_
      show Steps p.tables e below (T162.setTop (mkF m 205 #[.val (.int p1), .val (.ref b1), .val (.int (9 : Int32)), .val (.ref t9), .val (.int (0 : Int32))] [(.ref t9)])) _
      refine st198.trans ?_
      show Steps p.tables e below (T198.setTop (mkF m 208 #[.val (.int p1), .val (.ref b1), .val (.int (9 : Int32)), .val (.ref t9), .val (.int (0 : Int32))] [(.int (0 : Int32))])) _
      refine XS.iload X198.here hx rfl (hb hby at_208) rfl  ?_
      show Steps p.tables e below (T198.setTop (mkF m 210 #[.val (.int p1), .val (.ref b1), .val (.int (9 : Int32)), .val (.ref t9), .val (.int (0 : Int32))] [(.int (0 : Int32)), (.int (0 : Int32))])) _
      refine XS.icmpNo X198.here hx rfl (hb hby at_210) rfl (teq (by decide)).2 ?_
      show Steps p.tables e below (T198.setTop (mkF m 213 #[.val (.int p1), .val (.ref b1), .val (.int (9 : Int32)), .val (.ref t9), .val (.int (0 : Int32))] [])) _
      refine XS.iconst X198.here hx rfl (hb hby at_213) ?_
      show Steps p.tables e below (T198.setTop (mkF m 214 #[.val (.int p1), .val (.ref b1), .val (.int (9 : Int32)), .val (.ref t9), .val (.int (0 : Int32))] [(.int (1 : Int32))])) _
      refine XS.goto X198.here hx rfl (pc0 := 214) (pc' := 218) rfl (hb hby at_214) (by decide) (by decide) ?_
      show Steps p.tables e below (T198.setTop (mkF m 218 #[.val (.int p1), .val (.ref b1), .val (.int (9 : Int32)), .val (.ref t9), .val (.int (0 : Int32))] [(.int (1 : Int32))])) _
      exact retN X198 hx (t := .boolean) Bd.returns (by simp) (hb hby at_218) hrZ
    · show Q0 Z p1 t0 t1 t2 t3 t4 t5 t6 t7 t8 t9 t10 t11 t12 t13 t14 t15 t16 t17 t18 t19 t20 t21 t22 h0 n0 _ T198.heap _
      rw [e198]
      exact ⟨rfl, N198⟩
  ·  -- 10
    obtain ⟨c200, Arc200, qc200, Sc200, Mc200, Hc200, Gc200⟩ := id V162
    have hinc200 : ¬ ((10 : Int32) < 0 ∨ c200.slots.size ≤ ((10 : Int32)).toNatClampNeg) := inb_of Sc200 ⟨by decide, by decide⟩
    have hatc200 : c200.slots[((10 : Int32)).toNatClampNeg]? = some (.ref t10) := Hc200.at hinc200 rfl
    have fa202 : Exa Z h162 t10 "com/example/hewgen/hewgen/model/ShapeType" := (((((((((((((fa89.wr W90).wr W96).wr W102).wr W108).wr W114).wr W120).wr W126).wr W132).wr W138).wr W144).wr W150).wr W156).wr W162)
    obtain ⟨cq201, kq201, q201a, q201b, q201c⟩ := isOf hZ e162 fa202
    obtain ⟨_, _, ⟨T201, L201, k201, n201⟩, -, X201, ⟨Lc201, hQ201, l201, y201, z201⟩, st201⟩ := X169.virtualBack hx (y := (⟨"com/example/hewgen/hewgen/model/ShapeType", "hasNamedMembers", "()Z"⟩ : MethodName)) (z := (⟨"com/example/hewgen/hewgen/model/ShapeType", "hasNamedMembers", "()Z"⟩ : MethodName)) hown (mvT hZ (ow hw 51 rfl)) (mvT hZ (ow hw 52 rfl)) (notFace_of_selects (args := #[]) (mvT hZ (ow hw 54 rfl))) (mvT hZ (ow hw 54 rfl)) (mvT hZ (ow hw 53 rfl)) (by decide) (backOf (W := 0) (rm1n l Z a0 hw [] t10 t17 t18 t13 t14 h162 n0 Z163 fa164 fa165 fa166 fa167 n10_17 n10_18 n10_13 n10_14) hZ (ow hw 55 rfl) (ow hw 3 rfl) (by decide) (by decide)) q201a q201c (g := (mkF m 205 #[.val (.int p1), .val (.ref b1), .val (.int (10 : Int32)), .val (.ref t10), .val (.int (0 : Int32))] [(.ref t10)])) rfl (by rw [hml]; rfl) (Steps.refl _) (argsL := []) (rest := []) (lenOf pd2 rfl) rfl (by show 2 * 0 + _ ≤ _; exact Nat.le_of_eq rfl) (hb hby at_205) (fun _ _ => ⟨rfl, e162, (by decide : 1 + 0 ≤ _), (by decide : 23 + 0 ≤ _)⟩)
    dsimp only [Pt.U, Pt.locs, Pt.cells, Pt.slots] at X201 l201 y201 z201 st201 hQ201
    subst l201 y201 z201
    obtain ⟨rfl, N201q, e201⟩ := hQ201
    have N201 := Fr.app N169 N201q
    obtain ⟨fsZ, hrZ, hrun, hended, hW, hsame⟩ := X201.leave (v := some (.int (1 : Int32))) (fun h => by rw [Bd.returns] at h; cases h)
    refine ⟨_, _, pre168 _ ?_, hrun, hended, _, _, rfl, ?_, ⟨_, rfl⟩, hW, hsame.mono (by decide) (by decide)⟩
    · show Steps p.tables e below (T162.setTop (mkF m 169 #[.val (.int p1), .val (.ref b1), .val (.int (10 : Int32)), .unset, .unset] [])) _
      refine XS.aloadN X169.here hx rfl (hb hby at_169) rfl rfl ?_
      show Steps p.tables e below (T162.setTop (mkF m 170 #[.val (.int p1), .val (.ref b1), .val (.int (10 : Int32)), .unset, .unset] [(.ref b1)])) _
      refine XS.iloadN X169.here hx rfl (hb hby at_170) rfl  ?_
      show Steps p.tables e below (T162.setTop (mkF m 171 #[.val (.int p1), .val (.ref b1), .val (.int (10 : Int32)), .unset, .unset] [(.int (10 : Int32)), (.ref b1)])) _
      refine X169.aaload hx (j := (10 : Int32)) (v := (.ref t10)) (by rw [e162]; exact Arc200.1) (State.isArrayOf_alike hZ.alike Arc200.2.1) rfl Arc200.2.2 hinc200 hatc200 (g := (mkF m 171 #[.val (.int p1), .val (.ref b1), .val (.int (10 : Int32)), .unset, .unset] [(.int (10 : Int32)), (.ref b1)])) rfl rfl (hb hby at_171) _ ?_
      show Steps p.tables e below (T162.setTop (mkF m 172 #[.val (.int p1), .val (.ref b1), .val (.int (10 : Int32)), .unset, .unset] [(.ref t10)])) _
      refine XS.astoreN X169.here hx rfl (hb hby at_172) rfl rfl (l' := #[.val (.int p1), .val (.ref b1), .val (.int (10 : Int32)), .val (.ref t10), .unset]) rfl ?_
      show Steps p.tables e below (T162.setTop (mkF m 173 #[.val (.int p1), .val (.ref b1), .val (.int (10 : Int32)), .val (.ref t10), .unset] [])) _
      refine XS.iloadN X169.here hx rfl (hb hby at_173) rfl  ?_
      show Steps p.tables e below (T162.setTop (mkF m 174 #[.val (.int p1), .val (.ref b1), .val (.int (10 : Int32)), .val (.ref t10), .unset] [(.int (10 : Int32))])) _
      refine XS.bipush X169.here hx rfl (hb hby at_174) ?_
      show Steps p.tables e below (T162.setTop (mkF m 176 #[.val (.int p1), .val (.ref b1), .val (.int (10 : Int32)), .val (.ref t10), .unset] [(.int (13 : Int32)), (.int (10 : Int32))])) _
      refine XS.icmpNo X169.here hx rfl (hb hby at_176) rfl (feq (by decide)).1 ?_
      show Steps p.tables e below (T162.setTop (mkF m 179 #[.val (.int p1), .val (.ref b1), .val (.int (10 : Int32)), .val (.ref t10), .unset] [])) _
      refine XS.iloadN X169.here hx rfl (hb hby at_179) rfl  ?_
      show Steps p.tables e below (T162.setTop (mkF m 180 #[.val (.int p1), .val (.ref b1), .val (.int (10 : Int32)), .val (.ref t10), .unset] [(.int (10 : Int32))])) _
      refine XS.bipush X169.here hx rfl (hb hby at_180) ?_
      show Steps p.tables e below (T162.setTop (mkF m 182 #[.val (.int p1), .val (.ref b1), .val (.int (10 : Int32)), .val (.ref t10), .unset] [(.int (14 : Int32)), (.int (10 : Int32))])) _
      refine XS.icmpNo X169.here hx rfl (hb hby at_182) rfl (feq (by decide)).1 ?_
      show Steps p.tables e below (T162.setTop (mkF m 185 #[.val (.int p1), .val (.ref b1), .val (.int (10 : Int32)), .val (.ref t10), .unset] [])) _
      refine XS.iloadN X169.here hx rfl (hb hby at_185) rfl  ?_
      show Steps p.tables e below (T162.setTop (mkF m 186 #[.val (.int p1), .val (.ref b1), .val (.int (10 : Int32)), .val (.ref t10), .unset] [(.int (10 : Int32))])) _
      refine XS.bipush X169.here hx rfl (hb hby at_186) ?_
      show Steps p.tables e below (T162.setTop (mkF m 188 #[.val (.int p1), .val (.ref b1), .val (.int (10 : Int32)), .val (.ref t10), .unset] [(.int (17 : Int32)), (.int (10 : Int32))])) _
      refine XS.icmpNo X169.here hx rfl (hb hby at_188) rfl (feq (by decide)).1 ?_
      show Steps p.tables e below (T162.setTop (mkF m 191 #[.val (.int p1), .val (.ref b1), .val (.int (10 : Int32)), .val (.ref t10), .unset] [])) _
      refine XS.iloadN X169.here hx rfl (hb hby at_191) rfl  ?_
      show Steps p.tables e below (T162.setTop (mkF m 192 #[.val (.int p1), .val (.ref b1), .val (.int (10 : Int32)), .val (.ref t10), .unset] [(.int (10 : Int32))])) _
      refine XS.bipush X169.here hx rfl (hb hby at_192) ?_
      show Steps p.tables e below (T162.setTop (mkF m 194 #[.val (.int p1), .val (.ref b1), .val (.int (10 : Int32)), .val (.ref t10), .unset] [(.int (18 : Int32)), (.int (10 : Int32))])) _
      refine XS.icmpYes X169.here hx rfl (pc0 := 194) (pc' := 201) rfl (hb hby at_194) rfl (feq (by decide)).2 (by decide) (by decide) ?_
      show Steps p.tables e below (T162.setTop (mkF m 201 #[.val (.int p1), .val (.ref b1), .val (.int (10 : Int32)), .val (.ref t10), .unset] [])) _
      refine XS.iconst X169.here hx rfl (hb hby at_201) ?_
      show Steps p.tables e below (T162.setTop (mkF m 202 #[.val (.int p1), .val (.ref b1), .val (.int (10 : Int32)), .val (.ref t10), .unset] [(.int (0 : Int32))])) _
      refine XS.istore X169.here hx rfl (hb hby at_202) rfl (l' := #[.val (.int p1), .val (.ref b1), .val (.int (10 : Int32)), .val (.ref t10), .val (.int (0 : Int32))]) rfl ?_
      show Steps p.tables e below (T162.setTop (mkF m 204 #[.val (.int p1), .val (.ref b1), .val (.int (10 : Int32)), .val (.ref t10), .val (.int (0 : Int32))] [])) _
      refine XS.aloadN X169.here hx rfl (hb hby at_204) rfl rfl ?_
      show Steps p.tables e below (T162.setTop (mkF m 205 #[.val (.int p1), .val (.ref b1), .val (.int (10 : Int32)), .val (.ref t10), .val (.int (0 : Int32))] [(.ref t10)])) _
      refine st201.trans ?_
      show Steps p.tables e below (T201.setTop (mkF m 208 #[.val (.int p1), .val (.ref b1), .val (.int (10 : Int32)), .val (.ref t10), .val (.int (0 : Int32))] [(.int (0 : Int32))])) _
      refine XS.iload X201.here hx rfl (hb hby at_208) rfl  ?_
      show Steps p.tables e below (T201.setTop (mkF m 210 #[.val (.int p1), .val (.ref b1), .val (.int (10 : Int32)), .val (.ref t10), .val (.int (0 : Int32))] [(.int (0 : Int32)), (.int (0 : Int32))])) _
      refine XS.icmpNo X201.here hx rfl (hb hby at_210) rfl (teq (by decide)).2 ?_
      show Steps p.tables e below (T201.setTop (mkF m 213 #[.val (.int p1), .val (.ref b1), .val (.int (10 : Int32)), .val (.ref t10), .val (.int (0 : Int32))] [])) _
      refine XS.iconst X201.here hx rfl (hb hby at_213) ?_
      show Steps p.tables e below (T201.setTop (mkF m 214 #[.val (.int p1), .val (.ref b1), .val (.int (10 : Int32)), .val (.ref t10), .val (.int (0 : Int32))] [(.int (1 : Int32))])) _
      refine XS.goto X201.here hx rfl (pc0 := 214) (pc' := 218) rfl (hb hby at_214) (by decide) (by decide) ?_
      show Steps p.tables e below (T201.setTop (mkF m 218 #[.val (.int p1), .val (.ref b1), .val (.int (10 : Int32)), .val (.ref t10), .val (.int (0 : Int32))] [(.int (1 : Int32))])) _
      exact retN X201 hx (t := .boolean) Bd.returns (by simp) (hb hby at_218) hrZ
    · show Q0 Z p1 t0 t1 t2 t3 t4 t5 t6 t7 t8 t9 t10 t11 t12 t13 t14 t15 t16 t17 t18 t19 t20 t21 t22 h0 n0 _ T201.heap _
      rw [e201]
      exact ⟨rfl, N201⟩
  ·  -- 11
    obtain ⟨c203, Arc203, qc203, Sc203, Mc203, Hc203, Gc203⟩ := id V162
    have hinc203 : ¬ ((11 : Int32) < 0 ∨ c203.slots.size ≤ ((11 : Int32)).toNatClampNeg) := inb_of Sc203 ⟨by decide, by decide⟩
    have hatc203 : c203.slots[((11 : Int32)).toNatClampNeg]? = some (.ref t11) := Hc203.at hinc203 rfl
    have fa205 : Exa Z h162 t11 "com/example/hewgen/hewgen/model/ShapeType" := ((((((((((((fa95.wr W96).wr W102).wr W108).wr W114).wr W120).wr W126).wr W132).wr W138).wr W144).wr W150).wr W156).wr W162)
    obtain ⟨cq204, kq204, q204a, q204b, q204c⟩ := isOf hZ e162 fa205
    obtain ⟨_, _, ⟨T204, L204, k204, n204⟩, -, X204, ⟨Lc204, hQ204, l204, y204, z204⟩, st204⟩ := X169.virtualBack hx (y := (⟨"com/example/hewgen/hewgen/model/ShapeType", "hasNamedMembers", "()Z"⟩ : MethodName)) (z := (⟨"com/example/hewgen/hewgen/model/ShapeType", "hasNamedMembers", "()Z"⟩ : MethodName)) hown (mvT hZ (ow hw 51 rfl)) (mvT hZ (ow hw 52 rfl)) (notFace_of_selects (args := #[]) (mvT hZ (ow hw 54 rfl))) (mvT hZ (ow hw 54 rfl)) (mvT hZ (ow hw 53 rfl)) (by decide) (backOf (W := 0) (rm1n l Z a0 hw [] t11 t17 t18 t13 t14 h162 n0 Z163 fa164 fa165 fa166 fa167 n11_17 n11_18 n11_13 n11_14) hZ (ow hw 55 rfl) (ow hw 3 rfl) (by decide) (by decide)) q204a q204c (g := (mkF m 205 #[.val (.int p1), .val (.ref b1), .val (.int (11 : Int32)), .val (.ref t11), .val (.int (0 : Int32))] [(.ref t11)])) rfl (by rw [hml]; rfl) (Steps.refl _) (argsL := []) (rest := []) (lenOf pd2 rfl) rfl (by show 2 * 0 + _ ≤ _; exact Nat.le_of_eq rfl) (hb hby at_205) (fun _ _ => ⟨rfl, e162, (by decide : 1 + 0 ≤ _), (by decide : 23 + 0 ≤ _)⟩)
    dsimp only [Pt.U, Pt.locs, Pt.cells, Pt.slots] at X204 l204 y204 z204 st204 hQ204
    subst l204 y204 z204
    obtain ⟨rfl, N204q, e204⟩ := hQ204
    have N204 := Fr.app N169 N204q
    obtain ⟨fsZ, hrZ, hrun, hended, hW, hsame⟩ := X204.leave (v := some (.int (1 : Int32))) (fun h => by rw [Bd.returns] at h; cases h)
    refine ⟨_, _, pre168 _ ?_, hrun, hended, _, _, rfl, ?_, ⟨_, rfl⟩, hW, hsame.mono (by decide) (by decide)⟩
    · show Steps p.tables e below (T162.setTop (mkF m 169 #[.val (.int p1), .val (.ref b1), .val (.int (11 : Int32)), .unset, .unset] [])) _
      refine XS.aloadN X169.here hx rfl (hb hby at_169) rfl rfl ?_
      show Steps p.tables e below (T162.setTop (mkF m 170 #[.val (.int p1), .val (.ref b1), .val (.int (11 : Int32)), .unset, .unset] [(.ref b1)])) _
      refine XS.iloadN X169.here hx rfl (hb hby at_170) rfl  ?_
      show Steps p.tables e below (T162.setTop (mkF m 171 #[.val (.int p1), .val (.ref b1), .val (.int (11 : Int32)), .unset, .unset] [(.int (11 : Int32)), (.ref b1)])) _
      refine X169.aaload hx (j := (11 : Int32)) (v := (.ref t11)) (by rw [e162]; exact Arc203.1) (State.isArrayOf_alike hZ.alike Arc203.2.1) rfl Arc203.2.2 hinc203 hatc203 (g := (mkF m 171 #[.val (.int p1), .val (.ref b1), .val (.int (11 : Int32)), .unset, .unset] [(.int (11 : Int32)), (.ref b1)])) rfl rfl (hb hby at_171) _ ?_
      show Steps p.tables e below (T162.setTop (mkF m 172 #[.val (.int p1), .val (.ref b1), .val (.int (11 : Int32)), .unset, .unset] [(.ref t11)])) _
      refine XS.astoreN X169.here hx rfl (hb hby at_172) rfl rfl (l' := #[.val (.int p1), .val (.ref b1), .val (.int (11 : Int32)), .val (.ref t11), .unset]) rfl ?_
      show Steps p.tables e below (T162.setTop (mkF m 173 #[.val (.int p1), .val (.ref b1), .val (.int (11 : Int32)), .val (.ref t11), .unset] [])) _
      refine XS.iloadN X169.here hx rfl (hb hby at_173) rfl  ?_
      show Steps p.tables e below (T162.setTop (mkF m 174 #[.val (.int p1), .val (.ref b1), .val (.int (11 : Int32)), .val (.ref t11), .unset] [(.int (11 : Int32))])) _
      refine XS.bipush X169.here hx rfl (hb hby at_174) ?_
      show Steps p.tables e below (T162.setTop (mkF m 176 #[.val (.int p1), .val (.ref b1), .val (.int (11 : Int32)), .val (.ref t11), .unset] [(.int (13 : Int32)), (.int (11 : Int32))])) _
      refine XS.icmpNo X169.here hx rfl (hb hby at_176) rfl (feq (by decide)).1 ?_
      show Steps p.tables e below (T162.setTop (mkF m 179 #[.val (.int p1), .val (.ref b1), .val (.int (11 : Int32)), .val (.ref t11), .unset] [])) _
      refine XS.iloadN X169.here hx rfl (hb hby at_179) rfl  ?_
      show Steps p.tables e below (T162.setTop (mkF m 180 #[.val (.int p1), .val (.ref b1), .val (.int (11 : Int32)), .val (.ref t11), .unset] [(.int (11 : Int32))])) _
      refine XS.bipush X169.here hx rfl (hb hby at_180) ?_
      show Steps p.tables e below (T162.setTop (mkF m 182 #[.val (.int p1), .val (.ref b1), .val (.int (11 : Int32)), .val (.ref t11), .unset] [(.int (14 : Int32)), (.int (11 : Int32))])) _
      refine XS.icmpNo X169.here hx rfl (hb hby at_182) rfl (feq (by decide)).1 ?_
      show Steps p.tables e below (T162.setTop (mkF m 185 #[.val (.int p1), .val (.ref b1), .val (.int (11 : Int32)), .val (.ref t11), .unset] [])) _
      refine XS.iloadN X169.here hx rfl (hb hby at_185) rfl  ?_
      show Steps p.tables e below (T162.setTop (mkF m 186 #[.val (.int p1), .val (.ref b1), .val (.int (11 : Int32)), .val (.ref t11), .unset] [(.int (11 : Int32))])) _
      refine XS.bipush X169.here hx rfl (hb hby at_186) ?_
      show Steps p.tables e below (T162.setTop (mkF m 188 #[.val (.int p1), .val (.ref b1), .val (.int (11 : Int32)), .val (.ref t11), .unset] [(.int (17 : Int32)), (.int (11 : Int32))])) _
      refine XS.icmpNo X169.here hx rfl (hb hby at_188) rfl (feq (by decide)).1 ?_
      show Steps p.tables e below (T162.setTop (mkF m 191 #[.val (.int p1), .val (.ref b1), .val (.int (11 : Int32)), .val (.ref t11), .unset] [])) _
      refine XS.iloadN X169.here hx rfl (hb hby at_191) rfl  ?_
      show Steps p.tables e below (T162.setTop (mkF m 192 #[.val (.int p1), .val (.ref b1), .val (.int (11 : Int32)), .val (.ref t11), .unset] [(.int (11 : Int32))])) _
      refine XS.bipush X169.here hx rfl (hb hby at_192) ?_
      show Steps p.tables e below (T162.setTop (mkF m 194 #[.val (.int p1), .val (.ref b1), .val (.int (11 : Int32)), .val (.ref t11), .unset] [(.int (18 : Int32)), (.int (11 : Int32))])) _
      refine XS.icmpYes X169.here hx rfl (pc0 := 194) (pc' := 201) rfl (hb hby at_194) rfl (feq (by decide)).2 (by decide) (by decide) ?_
      show Steps p.tables e below (T162.setTop (mkF m 201 #[.val (.int p1), .val (.ref b1), .val (.int (11 : Int32)), .val (.ref t11), .unset] [])) _
      refine XS.iconst X169.here hx rfl (hb hby at_201) ?_
      show Steps p.tables e below (T162.setTop (mkF m 202 #[.val (.int p1), .val (.ref b1), .val (.int (11 : Int32)), .val (.ref t11), .unset] [(.int (0 : Int32))])) _
      refine XS.istore X169.here hx rfl (hb hby at_202) rfl (l' := #[.val (.int p1), .val (.ref b1), .val (.int (11 : Int32)), .val (.ref t11), .val (.int (0 : Int32))]) rfl ?_
      show Steps p.tables e below (T162.setTop (mkF m 204 #[.val (.int p1), .val (.ref b1), .val (.int (11 : Int32)), .val (.ref t11), .val (.int (0 : Int32))] [])) _
      refine XS.aloadN X169.here hx rfl (hb hby at_204) rfl rfl ?_
      show Steps p.tables e below (T162.setTop (mkF m 205 #[.val (.int p1), .val (.ref b1), .val (.int (11 : Int32)), .val (.ref t11), .val (.int (0 : Int32))] [(.ref t11)])) _
      refine st204.trans ?_
      show Steps p.tables e below (T204.setTop (mkF m 208 #[.val (.int p1), .val (.ref b1), .val (.int (11 : Int32)), .val (.ref t11), .val (.int (0 : Int32))] [(.int (0 : Int32))])) _
      refine XS.iload X204.here hx rfl (hb hby at_208) rfl  ?_
      show Steps p.tables e below (T204.setTop (mkF m 210 #[.val (.int p1), .val (.ref b1), .val (.int (11 : Int32)), .val (.ref t11), .val (.int (0 : Int32))] [(.int (0 : Int32)), (.int (0 : Int32))])) _
      refine XS.icmpNo X204.here hx rfl (hb hby at_210) rfl (teq (by decide)).2 ?_
      show Steps p.tables e below (T204.setTop (mkF m 213 #[.val (.int p1), .val (.ref b1), .val (.int (11 : Int32)), .val (.ref t11), .val (.int (0 : Int32))] [])) _
      refine XS.iconst X204.here hx rfl (hb hby at_213) ?_
      show Steps p.tables e below (T204.setTop (mkF m 214 #[.val (.int p1), .val (.ref b1), .val (.int (11 : Int32)), .val (.ref t11), .val (.int (0 : Int32))] [(.int (1 : Int32))])) _
      refine XS.goto X204.here hx rfl (pc0 := 214) (pc' := 218) rfl (hb hby at_214) (by decide) (by decide) ?_
      show Steps p.tables e below (T204.setTop (mkF m 218 #[.val (.int p1), .val (.ref b1), .val (.int (11 : Int32)), .val (.ref t11), .val (.int (0 : Int32))] [(.int (1 : Int32))])) _
      exact retN X204 hx (t := .boolean) Bd.returns (by simp) (hb hby at_218) hrZ
    · show Q0 Z p1 t0 t1 t2 t3 t4 t5 t6 t7 t8 t9 t10 t11 t12 t13 t14 t15 t16 t17 t18 t19 t20 t21 t22 h0 n0 _ T204.heap _
      rw [e204]
      exact ⟨rfl, N204⟩
  ·  -- 12
    obtain ⟨c206, Arc206, qc206, Sc206, Mc206, Hc206, Gc206⟩ := id V162
    have hinc206 : ¬ ((12 : Int32) < 0 ∨ c206.slots.size ≤ ((12 : Int32)).toNatClampNeg) := inb_of Sc206 ⟨by decide, by decide⟩
    have hatc206 : c206.slots[((12 : Int32)).toNatClampNeg]? = some (.ref t12) := Hc206.at hinc206 rfl
    have fa208 : Exa Z h162 t12 "com/example/hewgen/hewgen/model/ShapeType" := (((((((((((fa101.wr W102).wr W108).wr W114).wr W120).wr W126).wr W132).wr W138).wr W144).wr W150).wr W156).wr W162)
    obtain ⟨cq207, kq207, q207a, q207b, q207c⟩ := isOf hZ e162 fa208
    obtain ⟨_, _, ⟨T207, L207, k207, n207⟩, -, X207, ⟨Lc207, hQ207, l207, y207, z207⟩, st207⟩ := X169.virtualBack hx (y := (⟨"com/example/hewgen/hewgen/model/ShapeType", "hasNamedMembers", "()Z"⟩ : MethodName)) (z := (⟨"com/example/hewgen/hewgen/model/ShapeType", "hasNamedMembers", "()Z"⟩ : MethodName)) hown (mvT hZ (ow hw 51 rfl)) (mvT hZ (ow hw 52 rfl)) (notFace_of_selects (args := #[]) (mvT hZ (ow hw 54 rfl))) (mvT hZ (ow hw 54 rfl)) (mvT hZ (ow hw 53 rfl)) (by decide) (backOf (W := 0) (rm1n l Z a0 hw [] t12 t17 t18 t13 t14 h162 n0 Z163 fa164 fa165 fa166 fa167 n12_17 n12_18 n12_13 n12_14) hZ (ow hw 55 rfl) (ow hw 3 rfl) (by decide) (by decide)) q207a q207c (g := (mkF m 205 #[.val (.int p1), .val (.ref b1), .val (.int (12 : Int32)), .val (.ref t12), .val (.int (0 : Int32))] [(.ref t12)])) rfl (by rw [hml]; rfl) (Steps.refl _) (argsL := []) (rest := []) (lenOf pd2 rfl) rfl (by show 2 * 0 + _ ≤ _; exact Nat.le_of_eq rfl) (hb hby at_205) (fun _ _ => ⟨rfl, e162, (by decide : 1 + 0 ≤ _), (by decide : 23 + 0 ≤ _)⟩)
    dsimp only [Pt.U, Pt.locs, Pt.cells, Pt.slots] at X207 l207 y207 z207 st207 hQ207
    subst l207 y207 z207
    obtain ⟨rfl, N207q, e207⟩ := hQ207
    have N207 := Fr.app N169 N207q
    obtain ⟨fsZ, hrZ, hrun, hended, hW, hsame⟩ := X207.leave (v := some (.int (1 : Int32))) (fun h => by rw [Bd.returns] at h; cases h)
    refine ⟨_, _, pre168 _ ?_, hrun, hended, _, _, rfl, ?_, ⟨_, rfl⟩, hW, hsame.mono (by decide) (by decide)⟩
    · show Steps p.tables e below (T162.setTop (mkF m 169 #[.val (.int p1), .val (.ref b1), .val (.int (12 : Int32)), .unset, .unset] [])) _
      refine XS.aloadN X169.here hx rfl (hb hby at_169) rfl rfl ?_
      show Steps p.tables e below (T162.setTop (mkF m 170 #[.val (.int p1), .val (.ref b1), .val (.int (12 : Int32)), .unset, .unset] [(.ref b1)])) _
      refine XS.iloadN X169.here hx rfl (hb hby at_170) rfl  ?_
      show Steps p.tables e below (T162.setTop (mkF m 171 #[.val (.int p1), .val (.ref b1), .val (.int (12 : Int32)), .unset, .unset] [(.int (12 : Int32)), (.ref b1)])) _
      refine X169.aaload hx (j := (12 : Int32)) (v := (.ref t12)) (by rw [e162]; exact Arc206.1) (State.isArrayOf_alike hZ.alike Arc206.2.1) rfl Arc206.2.2 hinc206 hatc206 (g := (mkF m 171 #[.val (.int p1), .val (.ref b1), .val (.int (12 : Int32)), .unset, .unset] [(.int (12 : Int32)), (.ref b1)])) rfl rfl (hb hby at_171) _ ?_
      show Steps p.tables e below (T162.setTop (mkF m 172 #[.val (.int p1), .val (.ref b1), .val (.int (12 : Int32)), .unset, .unset] [(.ref t12)])) _
      refine XS.astoreN X169.here hx rfl (hb hby at_172) rfl rfl (l' := #[.val (.int p1), .val (.ref b1), .val (.int (12 : Int32)), .val (.ref t12), .unset]) rfl ?_
      show Steps p.tables e below (T162.setTop (mkF m 173 #[.val (.int p1), .val (.ref b1), .val (.int (12 : Int32)), .val (.ref t12), .unset] [])) _
      refine XS.iloadN X169.here hx rfl (hb hby at_173) rfl  ?_
      show Steps p.tables e below (T162.setTop (mkF m 174 #[.val (.int p1), .val (.ref b1), .val (.int (12 : Int32)), .val (.ref t12), .unset] [(.int (12 : Int32))])) _
      refine XS.bipush X169.here hx rfl (hb hby at_174) ?_
      show Steps p.tables e below (T162.setTop (mkF m 176 #[.val (.int p1), .val (.ref b1), .val (.int (12 : Int32)), .val (.ref t12), .unset] [(.int (13 : Int32)), (.int (12 : Int32))])) _
      refine XS.icmpNo X169.here hx rfl (hb hby at_176) rfl (feq (by decide)).1 ?_
      show Steps p.tables e below (T162.setTop (mkF m 179 #[.val (.int p1), .val (.ref b1), .val (.int (12 : Int32)), .val (.ref t12), .unset] [])) _
      refine XS.iloadN X169.here hx rfl (hb hby at_179) rfl  ?_
      show Steps p.tables e below (T162.setTop (mkF m 180 #[.val (.int p1), .val (.ref b1), .val (.int (12 : Int32)), .val (.ref t12), .unset] [(.int (12 : Int32))])) _
      refine XS.bipush X169.here hx rfl (hb hby at_180) ?_
      show Steps p.tables e below (T162.setTop (mkF m 182 #[.val (.int p1), .val (.ref b1), .val (.int (12 : Int32)), .val (.ref t12), .unset] [(.int (14 : Int32)), (.int (12 : Int32))])) _
      refine XS.icmpNo X169.here hx rfl (hb hby at_182) rfl (feq (by decide)).1 ?_
      show Steps p.tables e below (T162.setTop (mkF m 185 #[.val (.int p1), .val (.ref b1), .val (.int (12 : Int32)), .val (.ref t12), .unset] [])) _
      refine XS.iloadN X169.here hx rfl (hb hby at_185) rfl  ?_
      show Steps p.tables e below (T162.setTop (mkF m 186 #[.val (.int p1), .val (.ref b1), .val (.int (12 : Int32)), .val (.ref t12), .unset] [(.int (12 : Int32))])) _
      refine XS.bipush X169.here hx rfl (hb hby at_186) ?_
      show Steps p.tables e below (T162.setTop (mkF m 188 #[.val (.int p1), .val (.ref b1), .val (.int (12 : Int32)), .val (.ref t12), .unset] [(.int (17 : Int32)), (.int (12 : Int32))])) _
      refine XS.icmpNo X169.here hx rfl (hb hby at_188) rfl (feq (by decide)).1 ?_
      show Steps p.tables e below (T162.setTop (mkF m 191 #[.val (.int p1), .val (.ref b1), .val (.int (12 : Int32)), .val (.ref t12), .unset] [])) _
      refine XS.iloadN X169.here hx rfl (hb hby at_191) rfl  ?_
      show Steps p.tables e below (T162.setTop (mkF m 192 #[.val (.int p1), .val (.ref b1), .val (.int (12 : Int32)), .val (.ref t12), .unset] [(.int (12 : Int32))])) _
      refine XS.bipush X169.here hx rfl (hb hby at_192) ?_
      show Steps p.tables e below (T162.setTop (mkF m 194 #[.val (.int p1), .val (.ref b1), .val (.int (12 : Int32)), .val (.ref t12), .unset] [(.int (18 : Int32)), (.int (12 : Int32))])) _
      refine XS.icmpYes X169.here hx rfl (pc0 := 194) (pc' := 201) rfl (hb hby at_194) rfl (feq (by decide)).2 (by decide) (by decide) ?_
      show Steps p.tables e below (T162.setTop (mkF m 201 #[.val (.int p1), .val (.ref b1), .val (.int (12 : Int32)), .val (.ref t12), .unset] [])) _
      refine XS.iconst X169.here hx rfl (hb hby at_201) ?_
      show Steps p.tables e below (T162.setTop (mkF m 202 #[.val (.int p1), .val (.ref b1), .val (.int (12 : Int32)), .val (.ref t12), .unset] [(.int (0 : Int32))])) _
      refine XS.istore X169.here hx rfl (hb hby at_202) rfl (l' := #[.val (.int p1), .val (.ref b1), .val (.int (12 : Int32)), .val (.ref t12), .val (.int (0 : Int32))]) rfl ?_
      show Steps p.tables e below (T162.setTop (mkF m 204 #[.val (.int p1), .val (.ref b1), .val (.int (12 : Int32)), .val (.ref t12), .val (.int (0 : Int32))] [])) _
      refine XS.aloadN X169.here hx rfl (hb hby at_204) rfl rfl ?_
      show Steps p.tables e below (T162.setTop (mkF m 205 #[.val (.int p1), .val (.ref b1), .val (.int (12 : Int32)), .val (.ref t12), .val (.int (0 : Int32))] [(.ref t12)])) _
      refine st207.trans ?_
      show Steps p.tables e below (T207.setTop (mkF m 208 #[.val (.int p1), .val (.ref b1), .val (.int (12 : Int32)), .val (.ref t12), .val (.int (0 : Int32))] [(.int (0 : Int32))])) _
      refine XS.iload X207.here hx rfl (hb hby at_208) rfl  ?_
      show Steps p.tables e below (T207.setTop (mkF m 210 #[.val (.int p1), .val (.ref b1), .val (.int (12 : Int32)), .val (.ref t12), .val (.int (0 : Int32))] [(.int (0 : Int32)), (.int (0 : Int32))])) _
      refine XS.icmpNo X207.here hx rfl (hb hby at_210) rfl (teq (by decide)).2 ?_
      show Steps p.tables e below (T207.setTop (mkF m 213 #[.val (.int p1), .val (.ref b1), .val (.int (12 : Int32)), .val (.ref t12), .val (.int (0 : Int32))] [])) _
      refine XS.iconst X207.here hx rfl (hb hby at_213) ?_
      show Steps p.tables e below (T207.setTop (mkF m 214 #[.val (.int p1), .val (.ref b1), .val (.int (12 : Int32)), .val (.ref t12), .val (.int (0 : Int32))] [(.int (1 : Int32))])) _
      refine XS.goto X207.here hx rfl (pc0 := 214) (pc' := 218) rfl (hb hby at_214) (by decide) (by decide) ?_
      show Steps p.tables e below (T207.setTop (mkF m 218 #[.val (.int p1), .val (.ref b1), .val (.int (12 : Int32)), .val (.ref t12), .val (.int (0 : Int32))] [(.int (1 : Int32))])) _
      exact retN X207 hx (t := .boolean) Bd.returns (by simp) (hb hby at_218) hrZ
    · show Q0 Z p1 t0 t1 t2 t3 t4 t5 t6 t7 t8 t9 t10 t11 t12 t13 t14 t15 t16 t17 t18 t19 t20 t21 t22 h0 n0 _ T207.heap _
      rw [e207]
      exact ⟨rfl, N207⟩
  ·  -- 13
    obtain ⟨c209, Arc209, qc209, Sc209, Mc209, Hc209, Gc209⟩ := id V162
    have hinc209 : ¬ ((13 : Int32) < 0 ∨ c209.slots.size ≤ ((13 : Int32)).toNatClampNeg) := inb_of Sc209 ⟨by decide, by decide⟩
    have hatc209 : c209.slots[((13 : Int32)).toNatClampNeg]? = some (.ref t13) := Hc209.at hinc209 rfl
    have fa211 : Exa Z h162 t13 "com/example/hewgen/hewgen/model/ShapeType" := ((((((((((fa107.wr W108).wr W114).wr W120).wr W126).wr W132).wr W138).wr W144).wr W150).wr W156).wr W162)
    obtain ⟨cq210, kq210, q210a, q210b, q210c⟩ := isOf hZ e162 fa211
    obtain ⟨_, _, ⟨T210, L210, k210, n210⟩, -, X210, ⟨Lc210, hQ210, l210, y210, z210⟩, st210⟩ := X169.virtualBack hx (y := (⟨"com/example/hewgen/hewgen/model/ShapeType", "hasNamedMembers", "()Z"⟩ : MethodName)) (z := (⟨"com/example/hewgen/hewgen/model/ShapeType", "hasNamedMembers", "()Z"⟩ : MethodName)) hown (mvT hZ (ow hw 51 rfl)) (mvT hZ (ow hw 52 rfl)) (notFace_of_selects (args := #[]) (mvT hZ (ow hw 54 rfl))) (mvT hZ (ow hw 54 rfl)) (mvT hZ (ow hw 53 rfl)) (by decide) (backOf (W := 0) (rm1en l Z a0 hw [] t13 t17 t18 h162 n0 Z163 fa164 fa165 fa166 n13_17 n13_18) hZ (ow hw 55 rfl) (ow hw 3 rfl) (by decide) (by decide)) q210a q210c (g := (mkF m 205 #[.val (.int p1), .val (.ref b1), .val (.int (13 : Int32)), .val (.ref t13), .val (.int (1 : Int32))] [(.ref t13)])) rfl (by rw [hml]; rfl) (Steps.refl _) (argsL := []) (rest := []) (lenOf pd2 rfl) rfl (by show 2 * 0 + _ ≤ _; exact Nat.le_of_eq rfl) (hb hby at_205) (fun _ _ => ⟨rfl, e162, (by decide : 1 + 0 ≤ _), (by decide : 23 + 0 ≤ _)⟩)
    dsimp only [Pt.U, Pt.locs, Pt.cells, Pt.slots] at X210 l210 y210 z210 st210 hQ210
    subst l210 y210 z210
    obtain ⟨rfl, N210q, e210⟩ := hQ210
    have N210 := Fr.app N169 N210q
    obtain ⟨fsZ, hrZ, hrun, hended, hW, hsame⟩ := X210.leave (v := some (.int (1 : Int32))) (fun h => by rw [Bd.returns] at h; cases h)
    refine ⟨_, _, pre168 _ ?_, hrun, hended, _, _, rfl, ?_, ⟨_, rfl⟩, hW, hsame.mono (by decide) (by decide)⟩
    · show Steps p.tables e below (T162.setTop (mkF m 169 #[.val (.int p1), .val (.ref b1), .val (.int (13 : Int32)), .unset, .unset] [])) _
      refine XS.aloadN X169.here hx rfl (hb hby at_169) rfl rfl ?_
      show Steps p.tables e below (T162.setTop (mkF m 170 #[.val (.int p1), .val (.ref b1), .val (.int (13 : Int32)), .unset, .unset] [(.ref b1)])) _
      refine XS.iloadN X169.here hx rfl (hb hby at_170) rfl  ?_
      show Steps p.tables e below (T162.setTop (mkF m 171 #[.val (.int p1), .val (.ref b1), .val (.int (13 : Int32)), .unset, .unset] [(.int (13 : Int32)), (.ref b1)])) _
      refine X169.aaload hx (j := (13 : Int32)) (v := (.ref t13)) (by rw [e162]; exact Arc209.1) (State.isArrayOf_alike hZ.alike Arc209.2.1) rfl Arc209.2.2 hinc209 hatc209 (g := (mkF m 171 #[.val (.int p1), .val (.ref b1), .val (.int (13 : Int32)), .unset, .unset] [(.int (13 : Int32)), (.ref b1)])) rfl rfl (hb hby at_171) _ ?_
      show Steps p.tables e below (T162.setTop (mkF m 172 #[.val (.int p1), .val (.ref b1), .val (.int (13 : Int32)), .unset, .unset] [(.ref t13)])) _
      refine XS.astoreN X169.here hx rfl (hb hby at_172) rfl rfl (l' := #[.val (.int p1), .val (.ref b1), .val (.int (13 : Int32)), .val (.ref t13), .unset]) rfl ?_
      show Steps p.tables e below (T162.setTop (mkF m 173 #[.val (.int p1), .val (.ref b1), .val (.int (13 : Int32)), .val (.ref t13), .unset] [])) _
      refine XS.iloadN X169.here hx rfl (hb hby at_173) rfl  ?_
      show Steps p.tables e below (T162.setTop (mkF m 174 #[.val (.int p1), .val (.ref b1), .val (.int (13 : Int32)), .val (.ref t13), .unset] [(.int (13 : Int32))])) _
      refine XS.bipush X169.here hx rfl (hb hby at_174) ?_
      show Steps p.tables e below (T162.setTop (mkF m 176 #[.val (.int p1), .val (.ref b1), .val (.int (13 : Int32)), .val (.ref t13), .unset] [(.int (13 : Int32)), (.int (13 : Int32))])) _
      refine XS.icmpYes X169.here hx rfl (pc0 := 176) (pc' := 197) rfl (hb hby at_176) rfl (teq (by decide)).1 (by decide) (by decide) ?_
      show Steps p.tables e below (T162.setTop (mkF m 197 #[.val (.int p1), .val (.ref b1), .val (.int (13 : Int32)), .val (.ref t13), .unset] [])) _
      refine XS.iconst X169.here hx rfl (hb hby at_197) ?_
      show Steps p.tables e below (T162.setTop (mkF m 198 #[.val (.int p1), .val (.ref b1), .val (.int (13 : Int32)), .val (.ref t13), .unset] [(.int (1 : Int32))])) _
      refine XS.goto X169.here hx rfl (pc0 := 198) (pc' := 202) rfl (hb hby at_198) (by decide) (by decide) ?_
      show Steps p.tables e below (T162.setTop (mkF m 202 #[.val (.int p1), .val (.ref b1), .val (.int (13 : Int32)), .val (.ref t13), .unset] [(.int (1 : Int32))])) _
      refine XS.istore X169.here hx rfl (hb hby at_202) rfl (l' := #[.val (.int p1), .val (.ref b1), .val (.int (13 : Int32)), .val (.ref t13), .val (.int (1 : Int32))]) rfl ?_
      show Steps p.tables e below (T162.setTop (mkF m 204 #[.val (.int p1), .val (.ref b1), .val (.int (13 : Int32)), .val (.ref t13), .val (.int (1 : Int32))] [])) _
      refine XS.aloadN X169.here hx rfl (hb hby at_204) rfl rfl ?_
      show Steps p.tables e below (T162.setTop (mkF m 205 #[.val (.int p1), .val (.ref b1), .val (.int (13 : Int32)), .val (.ref t13), .val (.int (1 : Int32))] [(.ref t13)])) _
      refine st210.trans ?_
      show Steps p.tables e below (T210.setTop (mkF m 208 #[.val (.int p1), .val (.ref b1), .val (.int (13 : Int32)), .val (.ref t13), .val (.int (1 : Int32))] [(.int (1 : Int32))])) _
      refine XS.iload X210.here hx rfl (hb hby at_208) rfl  ?_
      show Steps p.tables e below (T210.setTop (mkF m 210 #[.val (.int p1), .val (.ref b1), .val (.int (13 : Int32)), .val (.ref t13), .val (.int (1 : Int32))] [(.int (1 : Int32)), (.int (1 : Int32))])) _
      refine XS.icmpNo X210.here hx rfl (hb hby at_210) rfl (teq (by decide)).2 ?_
      show Steps p.tables e below (T210.setTop (mkF m 213 #[.val (.int p1), .val (.ref b1), .val (.int (13 : Int32)), .val (.ref t13), .val (.int (1 : Int32))] [])) _
      refine XS.iconst X210.here hx rfl (hb hby at_213) ?_
      show Steps p.tables e below (T210.setTop (mkF m 214 #[.val (.int p1), .val (.ref b1), .val (.int (13 : Int32)), .val (.ref t13), .val (.int (1 : Int32))] [(.int (1 : Int32))])) _
      refine XS.goto X210.here hx rfl (pc0 := 214) (pc' := 218) rfl (hb hby at_214) (by decide) (by decide) ?_
      show Steps p.tables e below (T210.setTop (mkF m 218 #[.val (.int p1), .val (.ref b1), .val (.int (13 : Int32)), .val (.ref t13), .val (.int (1 : Int32))] [(.int (1 : Int32))])) _
      exact retN X210 hx (t := .boolean) Bd.returns (by simp) (hb hby at_218) hrZ
    · show Q0 Z p1 t0 t1 t2 t3 t4 t5 t6 t7 t8 t9 t10 t11 t12 t13 t14 t15 t16 t17 t18 t19 t20 t21 t22 h0 n0 _ T210.heap _
      rw [e210]
      exact ⟨rfl, N210⟩
  ·  -- 14
    obtain ⟨c212, Arc212, qc212, Sc212, Mc212, Hc212, Gc212⟩ := id V162
    have hinc212 : ¬ ((14 : Int32) < 0 ∨ c212.slots.size ≤ ((14 : Int32)).toNatClampNeg) := inb_of Sc212 ⟨by decide, by decide⟩
    have hatc212 : c212.slots[((14 : Int32)).toNatClampNeg]? = some (.ref t14) := Hc212.at hinc212 rfl
    have fa214 : Exa Z h162 t14 "com/example/hewgen/hewgen/model/ShapeType" := (((((((((fa113.wr W114).wr W120).wr W126).wr W132).wr W138).wr W144).wr W150).wr W156).wr W162)
    obtain ⟨cq213, kq213, q213a, q213b, q213c⟩ := isOf hZ e162 fa214
    obtain ⟨_, _, ⟨T213, L213, k213, n213⟩, -, X213, ⟨Lc213, hQ213, l213, y213, z213⟩, st213⟩ := X169.virtualBack hx (y := (⟨"com/example/hewgen/hewgen/model/ShapeType", "hasNamedMembers", "()Z"⟩ : MethodName)) (z := (⟨"com/example/hewgen/hewgen/model/ShapeType", "hasNamedMembers", "()Z"⟩ : MethodName)) hown (mvT hZ (ow hw 51 rfl)) (mvT hZ (ow hw 52 rfl)) (notFace_of_selects (args := #[]) (mvT hZ (ow hw 54 rfl))) (mvT hZ (ow hw 54 rfl)) (mvT hZ (ow hw 53 rfl)) (by decide) (backOf (W := 0) (rm1ie l Z a0 hw [] t14 t17 t18 t13 h162 n0 Z163 fa164 fa165 fa166 fa167 n14_17 n14_18 n14_13) hZ (ow hw 55 rfl) (ow hw 3 rfl) (by decide) (by decide)) q213a q213c (g := (mkF m 205 #[.val (.int p1), .val (.ref b1), .val (.int (14 : Int32)), .val (.ref t14), .val (.int (1 : Int32))] [(.ref t14)])) rfl (by rw [hml]; rfl) (Steps.refl _) (argsL := []) (rest := []) (lenOf pd2 rfl) rfl (by show 2 * 0 + _ ≤ _; exact Nat.le_of_eq rfl) (hb hby at_205) (fun _ _ => ⟨rfl, e162, (by decide : 1 + 0 ≤ _), (by decide : 23 + 0 ≤ _)⟩)
    dsimp only [Pt.U, Pt.locs, Pt.cells, Pt.slots] at X213 l213 y213 z213 st213 hQ213
    subst l213 y213 z213
    obtain ⟨rfl, N213q, e213⟩ := hQ213
    have N213 := Fr.app N169 N213q
    obtain ⟨fsZ, hrZ, hrun, hended, hW, hsame⟩ := X213.leave (v := some (.int (1 : Int32))) (fun h => by rw [Bd.returns] at h; cases h)
    refine ⟨_, _, pre168 _ ?_, hrun, hended, _, _, rfl, ?_, ⟨_, rfl⟩, hW, hsame.mono (by decide) (by decide)⟩
    · show Steps p.tables e below (T162.setTop (mkF m 169 #[.val (.int p1), .val (.ref b1), .val (.int (14 : Int32)), .unset, .unset] [])) _
      refine XS.aloadN X169.here hx rfl (hb hby at_169) rfl rfl ?_
      show Steps p.tables e below (T162.setTop (mkF m 170 #[.val (.int p1), .val (.ref b1), .val (.int (14 : Int32)), .unset, .unset] [(.ref b1)])) _
      refine XS.iloadN X169.here hx rfl (hb hby at_170) rfl  ?_
      show Steps p.tables e below (T162.setTop (mkF m 171 #[.val (.int p1), .val (.ref b1), .val (.int (14 : Int32)), .unset, .unset] [(.int (14 : Int32)), (.ref b1)])) _
      refine X169.aaload hx (j := (14 : Int32)) (v := (.ref t14)) (by rw [e162]; exact Arc212.1) (State.isArrayOf_alike hZ.alike Arc212.2.1) rfl Arc212.2.2 hinc212 hatc212 (g := (mkF m 171 #[.val (.int p1), .val (.ref b1), .val (.int (14 : Int32)), .unset, .unset] [(.int (14 : Int32)), (.ref b1)])) rfl rfl (hb hby at_171) _ ?_
      show Steps p.tables e below (T162.setTop (mkF m 172 #[.val (.int p1), .val (.ref b1), .val (.int (14 : Int32)), .unset, .unset] [(.ref t14)])) _
      refine XS.astoreN X169.here hx rfl (hb hby at_172) rfl rfl (l' := #[.val (.int p1), .val (.ref b1), .val (.int (14 : Int32)), .val (.ref t14), .unset]) rfl ?_
      show Steps p.tables e below (T162.setTop (mkF m 173 #[.val (.int p1), .val (.ref b1), .val (.int (14 : Int32)), .val (.ref t14), .unset] [])) _
      refine XS.iloadN X169.here hx rfl (hb hby at_173) rfl  ?_
      show Steps p.tables e below (T162.setTop (mkF m 174 #[.val (.int p1), .val (.ref b1), .val (.int (14 : Int32)), .val (.ref t14), .unset] [(.int (14 : Int32))])) _
      refine XS.bipush X169.here hx rfl (hb hby at_174) ?_
      show Steps p.tables e below (T162.setTop (mkF m 176 #[.val (.int p1), .val (.ref b1), .val (.int (14 : Int32)), .val (.ref t14), .unset] [(.int (13 : Int32)), (.int (14 : Int32))])) _
      refine XS.icmpNo X169.here hx rfl (hb hby at_176) rfl (feq (by decide)).1 ?_
      show Steps p.tables e below (T162.setTop (mkF m 179 #[.val (.int p1), .val (.ref b1), .val (.int (14 : Int32)), .val (.ref t14), .unset] [])) _
      refine XS.iloadN X169.here hx rfl (hb hby at_179) rfl  ?_
      show Steps p.tables e below (T162.setTop (mkF m 180 #[.val (.int p1), .val (.ref b1), .val (.int (14 : Int32)), .val (.ref t14), .unset] [(.int (14 : Int32))])) _
      refine XS.bipush X169.here hx rfl (hb hby at_180) ?_
      show Steps p.tables e below (T162.setTop (mkF m 182 #[.val (.int p1), .val (.ref b1), .val (.int (14 : Int32)), .val (.ref t14), .unset] [(.int (14 : Int32)), (.int (14 : Int32))])) _
      refine XS.icmpYes X169.here hx rfl (pc0 := 182) (pc' := 197) rfl (hb hby at_182) rfl (teq (by decide)).1 (by decide) (by decide) ?_
      show Steps p.tables e below (T162.setTop (mkF m 197 #[.val (.int p1), .val (.ref b1), .val (.int (14 : Int32)), .val (.ref t14), .unset] [])) _
      refine XS.iconst X169.here hx rfl (hb hby at_197) ?_
      show Steps p.tables e below (T162.setTop (mkF m 198 #[.val (.int p1), .val (.ref b1), .val (.int (14 : Int32)), .val (.ref t14), .unset] [(.int (1 : Int32))])) _
      refine XS.goto X169.here hx rfl (pc0 := 198) (pc' := 202) rfl (hb hby at_198) (by decide) (by decide) ?_
      show Steps p.tables e below (T162.setTop (mkF m 202 #[.val (.int p1), .val (.ref b1), .val (.int (14 : Int32)), .val (.ref t14), .unset] [(.int (1 : Int32))])) _
      refine XS.istore X169.here hx rfl (hb hby at_202) rfl (l' := #[.val (.int p1), .val (.ref b1), .val (.int (14 : Int32)), .val (.ref t14), .val (.int (1 : Int32))]) rfl ?_
      show Steps p.tables e below (T162.setTop (mkF m 204 #[.val (.int p1), .val (.ref b1), .val (.int (14 : Int32)), .val (.ref t14), .val (.int (1 : Int32))] [])) _
      refine XS.aloadN X169.here hx rfl (hb hby at_204) rfl rfl ?_
      show Steps p.tables e below (T162.setTop (mkF m 205 #[.val (.int p1), .val (.ref b1), .val (.int (14 : Int32)), .val (.ref t14), .val (.int (1 : Int32))] [(.ref t14)])) _
      refine st213.trans ?_
      show Steps p.tables e below (T213.setTop (mkF m 208 #[.val (.int p1), .val (.ref b1), .val (.int (14 : Int32)), .val (.ref t14), .val (.int (1 : Int32))] [(.int (1 : Int32))])) _
      refine XS.iload X213.here hx rfl (hb hby at_208) rfl  ?_
      show Steps p.tables e below (T213.setTop (mkF m 210 #[.val (.int p1), .val (.ref b1), .val (.int (14 : Int32)), .val (.ref t14), .val (.int (1 : Int32))] [(.int (1 : Int32)), (.int (1 : Int32))])) _
      refine XS.icmpNo X213.here hx rfl (hb hby at_210) rfl (teq (by decide)).2 ?_
      show Steps p.tables e below (T213.setTop (mkF m 213 #[.val (.int p1), .val (.ref b1), .val (.int (14 : Int32)), .val (.ref t14), .val (.int (1 : Int32))] [])) _
      refine XS.iconst X213.here hx rfl (hb hby at_213) ?_
      show Steps p.tables e below (T213.setTop (mkF m 214 #[.val (.int p1), .val (.ref b1), .val (.int (14 : Int32)), .val (.ref t14), .val (.int (1 : Int32))] [(.int (1 : Int32))])) _
      refine XS.goto X213.here hx rfl (pc0 := 214) (pc' := 218) rfl (hb hby at_214) (by decide) (by decide) ?_
      show Steps p.tables e below (T213.setTop (mkF m 218 #[.val (.int p1), .val (.ref b1), .val (.int (14 : Int32)), .val (.ref t14), .val (.int (1 : Int32))] [(.int (1 : Int32))])) _
      exact retN X213 hx (t := .boolean) Bd.returns (by simp) (hb hby at_218) hrZ
    · show Q0 Z p1 t0 t1 t2 t3 t4 t5 t6 t7 t8 t9 t10 t11 t12 t13 t14 t15 t16 t17 t18 t19 t20 t21 t22 h0 n0 _ T213.heap _
      rw [e213]
      exact ⟨rfl, N213⟩
  ·  -- 15
    obtain ⟨c215, Arc215, qc215, Sc215, Mc215, Hc215, Gc215⟩ := id V162
    have hinc215 : ¬ ((15 : Int32) < 0 ∨ c215.slots.size ≤ ((15 : Int32)).toNatClampNeg) := inb_of Sc215 ⟨by decide, by decide⟩
    have hatc215 : c215.slots[((15 : Int32)).toNatClampNeg]? = some (.ref t15) := Hc215.at hinc215 rfl
    have fa217 : Exa Z h162 t15 "com/example/hewgen/hewgen/model/ShapeType" := ((((((((fa119.wr W120).wr W126).wr W132).wr W138).wr W144).wr W150).wr W156).wr W162)
    obtain ⟨cq216, kq216, q216a, q216b, q216c⟩ := isOf hZ e162 fa217
    obtain ⟨_, _, ⟨T216, L216, k216, n216⟩, -, X216, ⟨Lc216, hQ216, l216, y216, z216⟩, st216⟩ := X169.virtualBack hx (y := (⟨"com/example/hewgen/hewgen/model/ShapeType", "hasNamedMembers", "()Z"⟩ : MethodName)) (z := (⟨"com/example/hewgen/hewgen/model/ShapeType", "hasNamedMembers", "()Z"⟩ : MethodName)) hown (mvT hZ (ow hw 51 rfl)) (mvT hZ (ow hw 52 rfl)) (notFace_of_selects (args := #[]) (mvT hZ (ow hw 54 rfl))) (mvT hZ (ow hw 54 rfl)) (mvT hZ (ow hw 53 rfl)) (by decide) (backOf (W := 0) (rm1n l Z a0 hw [] t15 t17 t18 t13 t14 h162 n0 Z163 fa164 fa165 fa166 fa167 n15_17 n15_18 n15_13 n15_14) hZ (ow hw 55 rfl) (ow hw 3 rfl) (by decide) (by decide)) q216a q216c (g := (mkF m 205 #[.val (.int p1), .val (.ref b1), .val (.int (15 : Int32)), .val (.ref t15), .val (.int (0 : Int32))] [(.ref t15)])) rfl (by rw [hml]; rfl) (Steps.refl _) (argsL := []) (rest := []) (lenOf pd2 rfl) rfl (by show 2 * 0 + _ ≤ _; exact Nat.le_of_eq rfl) (hb hby at_205) (fun _ _ => ⟨rfl, e162, (by decide : 1 + 0 ≤ _), (by decide : 23 + 0 ≤ _)⟩)
    dsimp only [Pt.U, Pt.locs, Pt.cells, Pt.slots] at X216 l216 y216 z216 st216 hQ216
    subst l216 y216 z216
    obtain ⟨rfl, N216q, e216⟩ := hQ216
    have N216 := Fr.app N169 N216q
    obtain ⟨fsZ, hrZ, hrun, hended, hW, hsame⟩ := X216.leave (v := some (.int (1 : Int32))) (fun h => by rw [Bd.returns] at h; cases h)
    refine ⟨_, _, pre168 _ ?_, hrun, hended, _, _, rfl, ?_, ⟨_, rfl⟩, hW, hsame.mono (by decide) (by decide)⟩
    · show Steps p.tables e below (T162.setTop (mkF m 169 #[.val (.int p1), .val (.ref b1), .val (.int (15 : Int32)), .unset, .unset] [])) _
      refine XS.aloadN X169.here hx rfl (hb hby at_169) rfl rfl ?_
      show Steps p.tables e below (T162.setTop (mkF m 170 #[.val (.int p1), .val (.ref b1), .val (.int (15 : Int32)), .unset, .unset] [(.ref b1)])) _
      refine XS.iloadN X169.here hx rfl (hb hby at_170) rfl  ?_
      show Steps p.tables e below (T162.setTop (mkF m 171 #[.val (.int p1), .val (.ref b1), .val (.int (15 : Int32)), .unset, .unset] [(.int (15 : Int32)), (.ref b1)])) _
      refine X169.aaload hx (j := (15 : Int32)) (v := (.ref t15)) (by rw [e162]; exact Arc215.1) (State.isArrayOf_alike hZ.alike Arc215.2.1) rfl Arc215.2.2 hinc215 hatc215 (g := (mkF m 171 #[.val (.int p1), .val (.ref b1), .val (.int (15 : Int32)), .unset, .unset] [(.int (15 : Int32)), (.ref b1)])) rfl rfl (hb hby at_171) _ ?_
      show Steps p.tables e below (T162.setTop (mkF m 172 #[.val (.int p1), .val (.ref b1), .val (.int (15 : Int32)), .unset, .unset] [(.ref t15)])) _
      refine XS.astoreN X169.here hx rfl (hb hby at_172) rfl rfl (l' := #[.val (.int p1), .val (.ref b1), .val (.int (15 : Int32)), .val (.ref t15), .unset]) rfl ?_
      show Steps p.tables e below (T162.setTop (mkF m 173 #[.val (.int p1), .val (.ref b1), .val (.int (15 : Int32)), .val (.ref t15), .unset] [])) _
      refine XS.iloadN X169.here hx rfl (hb hby at_173) rfl  ?_
      show Steps p.tables e below (T162.setTop (mkF m 174 #[.val (.int p1), .val (.ref b1), .val (.int (15 : Int32)), .val (.ref t15), .unset] [(.int (15 : Int32))])) _
      refine XS.bipush X169.here hx rfl (hb hby at_174) ?_
      show Steps p.tables e below (T162.setTop (mkF m 176 #[.val (.int p1), .val (.ref b1), .val (.int (15 : Int32)), .val (.ref t15), .unset] [(.int (13 : Int32)), (.int (15 : Int32))])) _
      refine XS.icmpNo X169.here hx rfl (hb hby at_176) rfl (feq (by decide)).1 ?_
      show Steps p.tables e below (T162.setTop (mkF m 179 #[.val (.int p1), .val (.ref b1), .val (.int (15 : Int32)), .val (.ref t15), .unset] [])) _
      refine XS.iloadN X169.here hx rfl (hb hby at_179) rfl  ?_
      show Steps p.tables e below (T162.setTop (mkF m 180 #[.val (.int p1), .val (.ref b1), .val (.int (15 : Int32)), .val (.ref t15), .unset] [(.int (15 : Int32))])) _
      refine XS.bipush X169.here hx rfl (hb hby at_180) ?_
      show Steps p.tables e below (T162.setTop (mkF m 182 #[.val (.int p1), .val (.ref b1), .val (.int (15 : Int32)), .val (.ref t15), .unset] [(.int (14 : Int32)), (.int (15 : Int32))])) _
      refine XS.icmpNo X169.here hx rfl (hb hby at_182) rfl (feq (by decide)).1 ?_
      show Steps p.tables e below (T162.setTop (mkF m 185 #[.val (.int p1), .val (.ref b1), .val (.int (15 : Int32)), .val (.ref t15), .unset] [])) _
      refine XS.iloadN X169.here hx rfl (hb hby at_185) rfl  ?_
      show Steps p.tables e below (T162.setTop (mkF m 186 #[.val (.int p1), .val (.ref b1), .val (.int (15 : Int32)), .val (.ref t15), .unset] [(.int (15 : Int32))])) _
      refine XS.bipush X169.here hx rfl (hb hby at_186) ?_
      show Steps p.tables e below (T162.setTop (mkF m 188 #[.val (.int p1), .val (.ref b1), .val (.int (15 : Int32)), .val (.ref t15), .unset] [(.int (17 : Int32)), (.int (15 : Int32))])) _
      refine XS.icmpNo X169.here hx rfl (hb hby at_188) rfl (feq (by decide)).1 ?_
      show Steps p.tables e below (T162.setTop (mkF m 191 #[.val (.int p1), .val (.ref b1), .val (.int (15 : Int32)), .val (.ref t15), .unset] [])) _
      refine XS.iloadN X169.here hx rfl (hb hby at_191) rfl  ?_
      show Steps p.tables e below (T162.setTop (mkF m 192 #[.val (.int p1), .val (.ref b1), .val (.int (15 : Int32)), .val (.ref t15), .unset] [(.int (15 : Int32))])) _
      refine XS.bipush X169.here hx rfl (hb hby at_192) ?_
      show Steps p.tables e below (T162.setTop (mkF m 194 #[.val (.int p1), .val (.ref b1), .val (.int (15 : Int32)), .val (.ref t15), .unset] [(.int (18 : Int32)), (.int (15 : Int32))])) _
      refine XS.icmpYes X169.here hx rfl (pc0 := 194) (pc' := 201) rfl (hb hby at_194) rfl (feq (by decide)).2 (by decide) (by decide) ?_
      show Steps p.tables e below (T162.setTop (mkF m 201 #[.val (.int p1), .val (.ref b1), .val (.int (15 : Int32)), .val (.ref t15), .unset] [])) _
      refine XS.iconst X169.here hx rfl (hb hby at_201) ?_
      show Steps p.tables e below (T162.setTop (mkF m 202 #[.val (.int p1), .val (.ref b1), .val (.int (15 : Int32)), .val (.ref t15), .unset] [(.int (0 : Int32))])) _
      refine XS.istore X169.here hx rfl (hb hby at_202) rfl (l' := #[.val (.int p1), .val (.ref b1), .val (.int (15 : Int32)), .val (.ref t15), .val (.int (0 : Int32))]) rfl ?_
      show Steps p.tables e below (T162.setTop (mkF m 204 #[.val (.int p1), .val (.ref b1), .val (.int (15 : Int32)), .val (.ref t15), .val (.int (0 : Int32))] [])) _
      refine XS.aloadN X169.here hx rfl (hb hby at_204) rfl rfl ?_
      show Steps p.tables e below (T162.setTop (mkF m 205 #[.val (.int p1), .val (.ref b1), .val (.int (15 : Int32)), .val (.ref t15), .val (.int (0 : Int32))] [(.ref t15)])) _
      refine st216.trans ?_
      show Steps p.tables e below (T216.setTop (mkF m 208 #[.val (.int p1), .val (.ref b1), .val (.int (15 : Int32)), .val (.ref t15), .val (.int (0 : Int32))] [(.int (0 : Int32))])) _
      refine XS.iload X216.here hx rfl (hb hby at_208) rfl  ?_
      show Steps p.tables e below (T216.setTop (mkF m 210 #[.val (.int p1), .val (.ref b1), .val (.int (15 : Int32)), .val (.ref t15), .val (.int (0 : Int32))] [(.int (0 : Int32)), (.int (0 : Int32))])) _
      refine XS.icmpNo X216.here hx rfl (hb hby at_210) rfl (teq (by decide)).2 ?_
      show Steps p.tables e below (T216.setTop (mkF m 213 #[.val (.int p1), .val (.ref b1), .val (.int (15 : Int32)), .val (.ref t15), .val (.int (0 : Int32))] [])) _
      refine XS.iconst X216.here hx rfl (hb hby at_213) ?_
      show Steps p.tables e below (T216.setTop (mkF m 214 #[.val (.int p1), .val (.ref b1), .val (.int (15 : Int32)), .val (.ref t15), .val (.int (0 : Int32))] [(.int (1 : Int32))])) _
      refine XS.goto X216.here hx rfl (pc0 := 214) (pc' := 218) rfl (hb hby at_214) (by decide) (by decide) ?_
      show Steps p.tables e below (T216.setTop (mkF m 218 #[.val (.int p1), .val (.ref b1), .val (.int (15 : Int32)), .val (.ref t15), .val (.int (0 : Int32))] [(.int (1 : Int32))])) _
      exact retN X216 hx (t := .boolean) Bd.returns (by simp) (hb hby at_218) hrZ
    · show Q0 Z p1 t0 t1 t2 t3 t4 t5 t6 t7 t8 t9 t10 t11 t12 t13 t14 t15 t16 t17 t18 t19 t20 t21 t22 h0 n0 _ T216.heap _
      rw [e216]
      exact ⟨rfl, N216⟩
  ·  -- 16
    obtain ⟨c218, Arc218, qc218, Sc218, Mc218, Hc218, Gc218⟩ := id V162
    have hinc218 : ¬ ((16 : Int32) < 0 ∨ c218.slots.size ≤ ((16 : Int32)).toNatClampNeg) := inb_of Sc218 ⟨by decide, by decide⟩
    have hatc218 : c218.slots[((16 : Int32)).toNatClampNeg]? = some (.ref t16) := Hc218.at hinc218 rfl
    have fa220 : Exa Z h162 t16 "com/example/hewgen/hewgen/model/ShapeType" := (((((((fa125.wr W126).wr W132).wr W138).wr W144).wr W150).wr W156).wr W162)
    obtain ⟨cq219, kq219, q219a, q219b, q219c⟩ := isOf hZ e162 fa220
    obtain ⟨_, _, ⟨T219, L219, k219, n219⟩, -, X219, ⟨Lc219, hQ219, l219, y219, z219⟩, st219⟩ := X169.virtualBack hx (y := (⟨"com/example/hewgen/hewgen/model/ShapeType", "hasNamedMembers", "()Z"⟩ : MethodName)) (z := (⟨"com/example/hewgen/hewgen/model/ShapeType", "hasNamedMembers", "()Z"⟩ : MethodName)) hown (mvT hZ (ow hw 51 rfl)) (mvT hZ (ow hw 52 rfl)) (notFace_of_selects (args := #[]) (mvT hZ (ow hw 54 rfl))) (mvT hZ (ow hw 54 rfl)) (mvT hZ (ow hw 53 rfl)) (by decide) (backOf (W := 0) (rm1n l Z a0 hw [] t16 t17 t18 t13 t14 h162 n0 Z163 fa164 fa165 fa166 fa167 n16_17 n16_18 n16_13 n16_14) hZ (ow hw 55 rfl) (ow hw 3 rfl) (by decide) (by decide)) q219a q219c (g := (mkF m 205 #[.val (.int p1), .val (.ref b1), .val (.int (16 : Int32)), .val (.ref t16), .val (.int (0 : Int32))] [(.ref t16)])) rfl (by rw [hml]; rfl) (Steps.refl _) (argsL := []) (rest := []) (lenOf pd2 rfl) rfl (by show 2 * 0 + _ ≤ _; exact Nat.le_of_eq rfl) (hb hby at_205) (fun _ _ => ⟨rfl, e162, (by decide : 1 + 0 ≤ _), (by decide : 23 + 0 ≤ _)⟩)
    dsimp only [Pt.U, Pt.locs, Pt.cells, Pt.slots] at X219 l219 y219 z219 st219 hQ219
    subst l219 y219 z219
    obtain ⟨rfl, N219q, e219⟩ := hQ219
    have N219 := Fr.app N169 N219q
    obtain ⟨fsZ, hrZ, hrun, hended, hW, hsame⟩ := X219.leave (v := some (.int (1 : Int32))) (fun h => by rw [Bd.returns] at h; cases h)
    refine ⟨_, _, pre168 _ ?_, hrun, hended, _, _, rfl, ?_, ⟨_, rfl⟩, hW, hsame.mono (by decide) (by decide)⟩
    · show Steps p.tables e below (T162.setTop (mkF m 169 #[.val (.int p1), .val (.ref b1), .val (.int (16 : Int32)), .unset, .unset] [])) _
      refine XS.aloadN X169.here hx rfl (hb hby at_169) rfl rfl ?_
      show Steps p.tables e below (T162.setTop (mkF m 170 #[.val (.int p1), .val (.ref b1), .val (.int (16 : Int32)), .unset, .unset] [(.ref b1)])) _
      refine XS.iloadN X169.here hx rfl (hb hby at_170) rfl  ?_
      show Steps p.tables e below (T162.setTop (mkF m 171 #[.val (.int p1), .val (.ref b1), .val (.int (16 : Int32)), .unset, .unset] [(.int (16 : Int32)), (.ref b1)])) _
      refine X169.aaload hx (j := (16 : Int32)) (v := (.ref t16)) (by rw [e162]; exact Arc218.1) (State.isArrayOf_alike hZ.alike Arc218.2.1) rfl Arc218.2.2 hinc218 hatc218 (g := (mkF m 171 #[.val (.int p1), .val (.ref b1), .val (.int (16 : Int32)), .unset, .unset] [(.int (16 : Int32)), (.ref b1)])) rfl rfl (hb hby at_171) _ ?_
      show Steps p.tables e below (T162.setTop (mkF m 172 #[.val (.int p1), .val (.ref b1), .val (.int (16 : Int32)), .unset, .unset] [(.ref t16)])) _
      refine XS.astoreN X169.here hx rfl (hb hby at_172) rfl rfl (l' := #[.val (.int p1), .val (.ref b1), .val (.int (16 : Int32)), .val (.ref t16), .unset]) rfl ?_
      show Steps p.tables e below (T162.setTop (mkF m 173 #[.val (.int p1), .val (.ref b1), .val (.int (16 : Int32)), .val (.ref t16), .unset] [])) _
      refine XS.iloadN X169.here hx rfl (hb hby at_173) rfl  ?_
      show Steps p.tables e below (T162.setTop (mkF m 174 #[.val (.int p1), .val (.ref b1), .val (.int (16 : Int32)), .val (.ref t16), .unset] [(.int (16 : Int32))])) _
      refine XS.bipush X169.here hx rfl (hb hby at_174) ?_
      show Steps p.tables e below (T162.setTop (mkF m 176 #[.val (.int p1), .val (.ref b1), .val (.int (16 : Int32)), .val (.ref t16), .unset] [(.int (13 : Int32)), (.int (16 : Int32))])) _
      refine XS.icmpNo X169.here hx rfl (hb hby at_176) rfl (feq (by decide)).1 ?_
      show Steps p.tables e below (T162.setTop (mkF m 179 #[.val (.int p1), .val (.ref b1), .val (.int (16 : Int32)), .val (.ref t16), .unset] [])) _
      refine XS.iloadN X169.here hx rfl (hb hby at_179) rfl  ?_
      show Steps p.tables e below (T162.setTop (mkF m 180 #[.val (.int p1), .val (.ref b1), .val (.int (16 : Int32)), .val (.ref t16), .unset] [(.int (16 : Int32))])) _
      refine XS.bipush X169.here hx rfl (hb hby at_180) ?_
      show Steps p.tables e below (T162.setTop (mkF m 182 #[.val (.int p1), .val (.ref b1), .val (.int (16 : Int32)), .val (.ref t16), .unset] [(.int (14 : Int32)), (.int (16 : Int32))])) _
      refine XS.icmpNo X169.here hx rfl (hb hby at_182) rfl (feq (by decide)).1 ?_
      show Steps p.tables e below (T162.setTop (mkF m 185 #[.val (.int p1), .val (.ref b1), .val (.int (16 : Int32)), .val (.ref t16), .unset] [])) _
      refine XS.iloadN X169.here hx rfl (hb hby at_185) rfl  ?_
      show Steps p.tables e below (T162.setTop (mkF m 186 #[.val (.int p1), .val (.ref b1), .val (.int (16 : Int32)), .val (.ref t16), .unset] [(.int (16 : Int32))])) _
      refine XS.bipush X169.here hx rfl (hb hby at_186) ?_
      show Steps p.tables e below (T162.setTop (mkF m 188 #[.val (.int p1), .val (.ref b1), .val (.int (16 : Int32)), .val (.ref t16), .unset] [(.int (17 : Int32)), (.int (16 : Int32))])) _
      refine XS.icmpNo X169.here hx rfl (hb hby at_188) rfl (feq (by decide)).1 ?_
      show Steps p.tables e below (T162.setTop (mkF m 191 #[.val (.int p1), .val (.ref b1), .val (.int (16 : Int32)), .val (.ref t16), .unset] [])) _
      refine XS.iloadN X169.here hx rfl (hb hby at_191) rfl  ?_
      show Steps p.tables e below (T162.setTop (mkF m 192 #[.val (.int p1), .val (.ref b1), .val (.int (16 : Int32)), .val (.ref t16), .unset] [(.int (16 : Int32))])) _
      refine XS.bipush X169.here hx rfl (hb hby at_192) ?_
      show Steps p.tables e below (T162.setTop (mkF m 194 #[.val (.int p1), .val (.ref b1), .val (.int (16 : Int32)), .val (.ref t16), .unset] [(.int (18 : Int32)), (.int (16 : Int32))])) _
      refine XS.icmpYes X169.here hx rfl (pc0 := 194) (pc' := 201) rfl (hb hby at_194) rfl (feq (by decide)).2 (by decide) (by decide) ?_
      show Steps p.tables e below (T162.setTop (mkF m 201 #[.val (.int p1), .val (.ref b1), .val (.int (16 : Int32)), .val (.ref t16), .unset] [])) _
      refine XS.iconst X169.here hx rfl (hb hby at_201) ?_
      show Steps p.tables e below (T162.setTop (mkF m 202 #[.val (.int p1), .val (.ref b1), .val (.int (16 : Int32)), .val (.ref t16), .unset] [(.int (0 : Int32))])) _
      refine XS.istore X169.here hx rfl (hb hby at_202) rfl (l' := #[.val (.int p1), .val (.ref b1), .val (.int (16 : Int32)), .val (.ref t16), .val (.int (0 : Int32))]) rfl ?_
      show Steps p.tables e below (T162.setTop (mkF m 204 #[.val (.int p1), .val (.ref b1), .val (.int (16 : Int32)), .val (.ref t16), .val (.int (0 : Int32))] [])) _
      refine XS.aloadN X169.here hx rfl (hb hby at_204) rfl rfl ?_
      show Steps p.tables e below (T162.setTop (mkF m 205 #[.val (.int p1), .val (.ref b1), .val (.int (16 : Int32)), .val (.ref t16), .val (.int (0 : Int32))] [(.ref t16)])) _
      refine st219.trans ?_
      show Steps p.tables e below (T219.setTop (mkF m 208 #[.val (.int p1), .val (.ref b1), .val (.int (16 : Int32)), .val (.ref t16), .val (.int (0 : Int32))] [(.int (0 : Int32))])) _
      refine XS.iload X219.here hx rfl (hb hby at_208) rfl  ?_
      show Steps p.tables e below (T219.setTop (mkF m 210 #[.val (.int p1), .val (.ref b1), .val (.int (16 : Int32)), .val (.ref t16), .val (.int (0 : Int32))] [(.int (0 : Int32)), (.int (0 : Int32))])) _
      refine XS.icmpNo X219.here hx rfl (hb hby at_210) rfl (teq (by decide)).2 ?_
      show Steps p.tables e below (T219.setTop (mkF m 213 #[.val (.int p1), .val (.ref b1), .val (.int (16 : Int32)), .val (.ref t16), .val (.int (0 : Int32))] [])) _
      refine XS.iconst X219.here hx rfl (hb hby at_213) ?_
      show Steps p.tables e below (T219.setTop (mkF m 214 #[.val (.int p1), .val (.ref b1), .val (.int (16 : Int32)), .val (.ref t16), .val (.int (0 : Int32))] [(.int (1 : Int32))])) _
      refine XS.goto X219.here hx rfl (pc0 := 214) (pc' := 218) rfl (hb hby at_214) (by decide) (by decide) ?_
      show Steps p.tables e below (T219.setTop (mkF m 218 #[.val (.int p1), .val (.ref b1), .val (.int (16 : Int32)), .val (.ref t16), .val (.int (0 : Int32))] [(.int (1 : Int32))])) _
      exact retN X219 hx (t := .boolean) Bd.returns (by simp) (hb hby at_218) hrZ
    · show Q0 Z p1 t0 t1 t2 t3 t4 t5 t6 t7 t8 t9 t10 t11 t12 t13 t14 t15 t16 t17 t18 t19 t20 t21 t22 h0 n0 _ T219.heap _
      rw [e219]
      exact ⟨rfl, N219⟩
  ·  -- 17
    obtain ⟨c221, Arc221, qc221, Sc221, Mc221, Hc221, Gc221⟩ := id V162
    have hinc221 : ¬ ((17 : Int32) < 0 ∨ c221.slots.size ≤ ((17 : Int32)).toNatClampNeg) := inb_of Sc221 ⟨by decide, by decide⟩
    have hatc221 : c221.slots[((17 : Int32)).toNatClampNeg]? = some (.ref t17) := Hc221.at hinc221 rfl
    have fa223 : Exa Z h162 t17 "com/example/hewgen/hewgen/model/ShapeType" := ((((((fa131.wr W132).wr W138).wr W144).wr W150).wr W156).wr W162)
    obtain ⟨cq222, kq222, q222a, q222b, q222c⟩ := isOf hZ e162 fa223
    obtain ⟨_, _, ⟨T222, L222, k222, n222⟩, -, X222, ⟨Lc222, hQ222, l222, y222, z222⟩, st222⟩ := X169.virtualBack hx (y := (⟨"com/example/hewgen/hewgen/model/ShapeType", "hasNamedMembers", "()Z"⟩ : MethodName)) (z := (⟨"com/example/hewgen/hewgen/model/ShapeType", "hasNamedMembers", "()Z"⟩ : MethodName)) hown (mvT hZ (ow hw 51 rfl)) (mvT hZ (ow hw 52 rfl)) (notFace_of_selects (args := #[]) (mvT hZ (ow hw 54 rfl))) (mvT hZ (ow hw 54 rfl)) (mvT hZ (ow hw 53 rfl)) (by decide) (backOf (W := 0) (rm1st l Z a0 hw [] t17 h162 n0 Z163 fa164) hZ (ow hw 55 rfl) (ow hw 3 rfl) (by decide) (by decide)) q222a q222c (g := (mkF m 205 #[.val (.int p1), .val (.ref b1), .val (.int (17 : Int32)), .val (.ref t17), .val (.int (1 : Int32))] [(.ref t17)])) rfl (by rw [hml]; rfl) (Steps.refl _) (argsL := []) (rest := []) (lenOf pd2 rfl) rfl (by show 2 * 0 + _ ≤ _; exact Nat.le_of_eq rfl) (hb hby at_205) (fun _ _ => ⟨rfl, e162, (by decide : 1 + 0 ≤ _), (by decide : 23 + 0 ≤ _)⟩)
    dsimp only [Pt.U, Pt.locs, Pt.cells, Pt.slots] at X222 l222 y222 z222 st222 hQ222
    subst l222 y222 z222
    obtain ⟨rfl, N222q, e222⟩ := hQ222
    have N222 := Fr.app N169 N222q
    obtain ⟨fsZ, hrZ, hrun, hended, hW, hsame⟩ := X222.leave (v := some (.int (1 : Int32))) (fun h => by rw [Bd.returns] at h; cases h)
    refine ⟨_, _, pre168 _ ?_, hrun, hended, _, _, rfl, ?_, ⟨_, rfl⟩, hW, hsame.mono (by decide) (by decide)⟩
    · show Steps p.tables e below (T162.setTop (mkF m 169 #[.val (.int p1), .val (.ref b1), .val (.int (17 : Int32)), .unset, .unset] [])) _
      refine XS.aloadN X169.here hx rfl (hb hby at_169) rfl rfl ?_
      show Steps p.tables e below (T162.setTop (mkF m 170 #[.val (.int p1), .val (.ref b1), .val (.int (17 : Int32)), .unset, .unset] [(.ref b1)])) _
      refine XS.iloadN X169.here hx rfl (hb hby at_170) rfl  ?_
      show Steps p.tables e below (T162.setTop (mkF m 171 #[.val (.int p1), .val (.ref b1), .val (.int (17 : Int32)), .unset, .unset] [(.int (17 : Int32)), (.ref b1)])) _
      refine X169.aaload hx (j := (17 : Int32)) (v := (.ref t17)) (by rw [e162]; exact Arc221.1) (State.isArrayOf_alike hZ.alike Arc221.2.1) rfl Arc221.2.2 hinc221 hatc221 (g := (mkF m 171 #[.val (.int p1), .val (.ref b1), .val (.int (17 : Int32)), .unset, .unset] [(.int (17 : Int32)), (.ref b1)])) rfl rfl (hb hby at_171) _ ?_
      show Steps p.tables e below (T162.setTop (mkF m 172 #[.val (.int p1), .val (.ref b1), .val (.int (17 : Int32)), .unset, .unset] [(.ref t17)])) _
      refine XS.astoreN X169.here hx rfl (hb hby at_172) rfl rfl (l' := #[.val (.int p1), .val (.ref b1), .val (.int (17 : Int32)), .val (.ref t17), .unset]) rfl ?_
      show Steps p.tables e below (T162.setTop (mkF m 173 #[.val (.int p1), .val (.ref b1), .val (.int (17 : Int32)), .val (.ref t17), .unset] [])) _
      refine XS.iloadN X169.here hx rfl (hb hby at_173) rfl  ?_
      show Steps p.tables e below (T162.setTop (mkF m 174 #[.val (.int p1), .val (.ref b1), .val (.int (17 : Int32)), .val (.ref t17), .unset] [(.int (17 : Int32))])) _
      refine XS.bipush X169.here hx rfl (hb hby at_174) ?_
      show Steps p.tables e below (T162.setTop (mkF m 176 #[.val (.int p1), .val (.ref b1), .val (.int (17 : Int32)), .val (.ref t17), .unset] [(.int (13 : Int32)), (.int (17 : Int32))])) _
      refine XS.icmpNo X169.here hx rfl (hb hby at_176) rfl (feq (by decide)).1 ?_
      show Steps p.tables e below (T162.setTop (mkF m 179 #[.val (.int p1), .val (.ref b1), .val (.int (17 : Int32)), .val (.ref t17), .unset] [])) _
      refine XS.iloadN X169.here hx rfl (hb hby at_179) rfl  ?_
      show Steps p.tables e below (T162.setTop (mkF m 180 #[.val (.int p1), .val (.ref b1), .val (.int (17 : Int32)), .val (.ref t17), .unset] [(.int (17 : Int32))])) _
      refine XS.bipush X169.here hx rfl (hb hby at_180) ?_
      show Steps p.tables e below (T162.setTop (mkF m 182 #[.val (.int p1), .val (.ref b1), .val (.int (17 : Int32)), .val (.ref t17), .unset] [(.int (14 : Int32)), (.int (17 : Int32))])) _
      refine XS.icmpNo X169.here hx rfl (hb hby at_182) rfl (feq (by decide)).1 ?_
      show Steps p.tables e below (T162.setTop (mkF m 185 #[.val (.int p1), .val (.ref b1), .val (.int (17 : Int32)), .val (.ref t17), .unset] [])) _
      refine XS.iloadN X169.here hx rfl (hb hby at_185) rfl  ?_
      show Steps p.tables e below (T162.setTop (mkF m 186 #[.val (.int p1), .val (.ref b1), .val (.int (17 : Int32)), .val (.ref t17), .unset] [(.int (17 : Int32))])) _
      refine XS.bipush X169.here hx rfl (hb hby at_186) ?_
      show Steps p.tables e below (T162.setTop (mkF m 188 #[.val (.int p1), .val (.ref b1), .val (.int (17 : Int32)), .val (.ref t17), .unset] [(.int (17 : Int32)), (.int (17 : Int32))])) _
      refine XS.icmpYes X169.here hx rfl (pc0 := 188) (pc' := 197) rfl (hb hby at_188) rfl (teq (by decide)).1 (by decide) (by decide) ?_
      show Steps p.tables e below (T162.setTop (mkF m 197 #[.val (.int p1), .val (.ref b1), .val (.int (17 : Int32)), .val (.ref t17), .unset] [])) _
      refine XS.iconst X169.here hx rfl (hb hby at_197) ?_
      show Steps p.tables e below (T162.setTop (mkF m 198 #[.val (.int p1), .val (.ref b1), .val (.int (17 : Int32)), .val (.ref t17), .unset] [(.int (1 : Int32))])) _
      refine XS.goto X169.here hx rfl (pc0 := 198) (pc' := 202) rfl (hb hby at_198) (by decide) (by decide) ?_
      show Steps p.tables e below (T162.setTop (mkF m 202 #[.val (.int p1), .val (.ref b1), .val (.int (17 : Int32)), .val (.ref t17), .unset] [(.int (1 : Int32))])) _
      refine XS.istore X169.here hx rfl (hb hby at_202) rfl (l' := #[.val (.int p1), .val (.ref b1), .val (.int (17 : Int32)), .val (.ref t17), .val (.int (1 : Int32))]) rfl ?_
      show Steps p.tables e below (T162.setTop (mkF m 204 #[.val (.int p1), .val (.ref b1), .val (.int (17 : Int32)), .val (.ref t17), .val (.int (1 : Int32))] [])) _
      refine XS.aloadN X169.here hx rfl (hb hby at_204) rfl rfl ?_
      show Steps p.tables e below (T162.setTop (mkF m 205 #[.val (.int p1), .val (.ref b1), .val (.int (17 : Int32)), .val (.ref t17), .val (.int (1 : Int32))] [(.ref t17)])) _
      refine st222.trans ?_
      show Steps p.tables e below (T222.setTop (mkF m 208 #[.val (.int p1), .val (.ref b1), .val (.int (17 : Int32)), .val (.ref t17), .val (.int (1 : Int32))] [(.int (1 : Int32))])) _
      refine XS.iload X222.here hx rfl (hb hby at_208) rfl  ?_
      show Steps p.tables e below (T222.setTop (mkF m 210 #[.val (.int p1), .val (.ref b1), .val (.int (17 : Int32)), .val (.ref t17), .val (.int (1 : Int32))] [(.int (1 : Int32)), (.int (1 : Int32))])) _
      refine XS.icmpNo X222.here hx rfl (hb hby at_210) rfl (teq (by decide)).2 ?_
      show Steps p.tables e below (T222.setTop (mkF m 213 #[.val (.int p1), .val (.ref b1), .val (.int (17 : Int32)), .val (.ref t17), .val (.int (1 : Int32))] [])) _
      refine XS.iconst X222.here hx rfl (hb hby at_213) ?_
      show Steps p.tables e below (T222.setTop (mkF m 214 #[.val (.int p1), .val (.ref b1), .val (.int (17 : Int32)), .val (.ref t17), .val (.int (1 : Int32))] [(.int (1 : Int32))])) _
      refine XS.goto X222.here hx rfl (pc0 := 214) (pc' := 218) rfl (hb hby at_214) (by decide) (by decide) ?_
      show Steps p.tables e below (T222.setTop (mkF m 218 #[.val (.int p1), .val (.ref b1), .val (.int (17 : Int32)), .val (.ref t17), .val (.int (1 : Int32))] [(.int (1 : Int32))])) _
      exact retN X222 hx (t := .boolean) Bd.returns (by simp) (hb hby at_218) hrZ
    · show Q0 Z p1 t0 t1 t2 t3 t4 t5 t6 t7 t8 t9 t10 t11 t12 t13 t14 t15 t16 t17 t18 t19 t20 t21 t22 h0 n0 _ T222.heap _
      rw [e222]
      exact ⟨rfl, N222⟩
  ·  -- 18
    obtain ⟨c224, Arc224, qc224, Sc224, Mc224, Hc224, Gc224⟩ := id V162
    have hinc224 : ¬ ((18 : Int32) < 0 ∨ c224.slots.size ≤ ((18 : Int32)).toNatClampNeg) := inb_of Sc224 ⟨by decide, by decide⟩
    have hatc224 : c224.slots[((18 : Int32)).toNatClampNeg]? = some (.ref t18) := Hc224.at hinc224 rfl
    have fa226 : Exa Z h162 t18 "com/example/hewgen/hewgen/model/ShapeType" := (((((fa137.wr W138).wr W144).wr W150).wr W156).wr W162)
    obtain ⟨cq225, kq225, q225a, q225b, q225c⟩ := isOf hZ e162 fa226
    obtain ⟨_, _, ⟨T225, L225, k225, n225⟩, -, X225, ⟨Lc225, hQ225, l225, y225, z225⟩, st225⟩ := X169.virtualBack hx (y := (⟨"com/example/hewgen/hewgen/model/ShapeType", "hasNamedMembers", "()Z"⟩ : MethodName)) (z := (⟨"com/example/hewgen/hewgen/model/ShapeType", "hasNamedMembers", "()Z"⟩ : MethodName)) hown (mvT hZ (ow hw 51 rfl)) (mvT hZ (ow hw 52 rfl)) (notFace_of_selects (args := #[]) (mvT hZ (ow hw 54 rfl))) (mvT hZ (ow hw 54 rfl)) (mvT hZ (ow hw 53 rfl)) (by decide) (backOf (W := 0) (rm1un l Z a0 hw [] t18 t17 h162 n0 Z163 fa164 fa165 n18_17) hZ (ow hw 55 rfl) (ow hw 3 rfl) (by decide) (by decide)) q225a q225c (g := (mkF m 205 #[.val (.int p1), .val (.ref b1), .val (.int (18 : Int32)), .val (.ref t18), .val (.int (1 : Int32))] [(.ref t18)])) rfl (by rw [hml]; rfl) (Steps.refl _) (argsL := []) (rest := []) (lenOf pd2 rfl) rfl (by show 2 * 0 + _ ≤ _; exact Nat.le_of_eq rfl) (hb hby at_205) (fun _ _ => ⟨rfl, e162, (by decide : 1 + 0 ≤ _), (by decide : 23 + 0 ≤ _)⟩)
    dsimp only [Pt.U, Pt.locs, Pt.cells, Pt.slots] at X225 l225 y225 z225 st225 hQ225
    subst l225 y225 z225
    obtain ⟨rfl, N225q, e225⟩ := hQ225
    have N225 := Fr.app N169 N225q
    obtain ⟨fsZ, hrZ, hrun, hended, hW, hsame⟩ := X225.leave (v := some (.int (1 : Int32))) (fun h => by rw [Bd.returns] at h; cases h)
    refine ⟨_, _, pre168 _ ?_, hrun, hended, _, _, rfl, ?_, ⟨_, rfl⟩, hW, hsame.mono (by decide) (by decide)⟩
    · show Steps p.tables e below (T162.setTop (mkF m 169 #[.val (.int p1), .val (.ref b1), .val (.int (18 : Int32)), .unset, .unset] [])) _
      refine XS.aloadN X169.here hx rfl (hb hby at_169) rfl rfl ?_
      show Steps p.tables e below (T162.setTop (mkF m 170 #[.val (.int p1), .val (.ref b1), .val (.int (18 : Int32)), .unset, .unset] [(.ref b1)])) _
      refine XS.iloadN X169.here hx rfl (hb hby at_170) rfl  ?_
      show Steps p.tables e below (T162.setTop (mkF m 171 #[.val (.int p1), .val (.ref b1), .val (.int (18 : Int32)), .unset, .unset] [(.int (18 : Int32)), (.ref b1)])) _
      refine X169.aaload hx (j := (18 : Int32)) (v := (.ref t18)) (by rw [e162]; exact Arc224.1) (State.isArrayOf_alike hZ.alike Arc224.2.1) rfl Arc224.2.2 hinc224 hatc224 (g := (mkF m 171 #[.val (.int p1), .val (.ref b1), .val (.int (18 : Int32)), .unset, .unset] [(.int (18 : Int32)), (.ref b1)])) rfl rfl (hb hby at_171) _ ?_
      show Steps p.tables e below (T162.setTop (mkF m 172 #[.val (.int p1), .val (.ref b1), .val (.int (18 : Int32)), .unset, .unset] [(.ref t18)])) _
      refine XS.astoreN X169.here hx rfl (hb hby at_172) rfl rfl (l' := #[.val (.int p1), .val (.ref b1), .val (.int (18 : Int32)), .val (.ref t18), .unset]) rfl ?_
      show Steps p.tables e below (T162.setTop (mkF m 173 #[.val (.int p1), .val (.ref b1), .val (.int (18 : Int32)), .val (.ref t18), .unset] [])) _
      refine XS.iloadN X169.here hx rfl (hb hby at_173) rfl  ?_
      show Steps p.tables e below (T162.setTop (mkF m 174 #[.val (.int p1), .val (.ref b1), .val (.int (18 : Int32)), .val (.ref t18), .unset] [(.int (18 : Int32))])) _
      refine XS.bipush X169.here hx rfl (hb hby at_174) ?_
      show Steps p.tables e below (T162.setTop (mkF m 176 #[.val (.int p1), .val (.ref b1), .val (.int (18 : Int32)), .val (.ref t18), .unset] [(.int (13 : Int32)), (.int (18 : Int32))])) _
      refine XS.icmpNo X169.here hx rfl (hb hby at_176) rfl (feq (by decide)).1 ?_
      show Steps p.tables e below (T162.setTop (mkF m 179 #[.val (.int p1), .val (.ref b1), .val (.int (18 : Int32)), .val (.ref t18), .unset] [])) _
      refine XS.iloadN X169.here hx rfl (hb hby at_179) rfl  ?_
      show Steps p.tables e below (T162.setTop (mkF m 180 #[.val (.int p1), .val (.ref b1), .val (.int (18 : Int32)), .val (.ref t18), .unset] [(.int (18 : Int32))])) _
      refine XS.bipush X169.here hx rfl (hb hby at_180) ?_
      show Steps p.tables e below (T162.setTop (mkF m 182 #[.val (.int p1), .val (.ref b1), .val (.int (18 : Int32)), .val (.ref t18), .unset] [(.int (14 : Int32)), (.int (18 : Int32))])) _
      refine XS.icmpNo X169.here hx rfl (hb hby at_182) rfl (feq (by decide)).1 ?_
      show Steps p.tables e below (T162.setTop (mkF m 185 #[.val (.int p1), .val (.ref b1), .val (.int (18 : Int32)), .val (.ref t18), .unset] [])) _
      refine XS.iloadN X169.here hx rfl (hb hby at_185) rfl  ?_
      show Steps p.tables e below (T162.setTop (mkF m 186 #[.val (.int p1), .val (.ref b1), .val (.int (18 : Int32)), .val (.ref t18), .unset] [(.int (18 : Int32))])) _
      refine XS.bipush X169.here hx rfl (hb hby at_186) ?_
      show Steps p.tables e below (T162.setTop (mkF m 188 #[.val (.int p1), .val (.ref b1), .val (.int (18 : Int32)), .val (.ref t18), .unset] [(.int (17 : Int32)), (.int (18 : Int32))])) _
      refine XS.icmpNo X169.here hx rfl (hb hby at_188) rfl (feq (by decide)).1 ?_
      show Steps p.tables e below (T162.setTop (mkF m 191 #[.val (.int p1), .val (.ref b1), .val (.int (18 : Int32)), .val (.ref t18), .unset] [])) _
      refine XS.iloadN X169.here hx rfl (hb hby at_191) rfl  ?_
      show Steps p.tables e below (T162.setTop (mkF m 192 #[.val (.int p1), .val (.ref b1), .val (.int (18 : Int32)), .val (.ref t18), .unset] [(.int (18 : Int32))])) _
      refine XS.bipush X169.here hx rfl (hb hby at_192) ?_
      show Steps p.tables e below (T162.setTop (mkF m 194 #[.val (.int p1), .val (.ref b1), .val (.int (18 : Int32)), .val (.ref t18), .unset] [(.int (18 : Int32)), (.int (18 : Int32))])) _
      refine XS.icmpNo X169.here hx rfl (hb hby at_194) rfl (teq (by decide)).2 ?_
      show Steps p.tables e below (T162.setTop (mkF m 197 #[.val (.int p1), .val (.ref b1), .val (.int (18 : Int32)), .val (.ref t18), .unset] [])) _
      refine XS.iconst X169.here hx rfl (hb hby at_197) ?_
      show Steps p.tables e below (T162.setTop (mkF m 198 #[.val (.int p1), .val (.ref b1), .val (.int (18 : Int32)), .val (.ref t18), .unset] [(.int (1 : Int32))])) _
      refine XS.goto X169.here hx rfl (pc0 := 198) (pc' := 202) rfl (hb hby at_198) (by decide) (by decide) ?_
      show Steps p.tables e below (T162.setTop (mkF m 202 #[.val (.int p1), .val (.ref b1), .val (.int (18 : Int32)), .val (.ref t18), .unset] [(.int (1 : Int32))])) _
      refine XS.istore X169.here hx rfl (hb hby at_202) rfl (l' := #[.val (.int p1), .val (.ref b1), .val (.int (18 : Int32)), .val (.ref t18), .val (.int (1 : Int32))]) rfl ?_
      show Steps p.tables e below (T162.setTop (mkF m 204 #[.val (.int p1), .val (.ref b1), .val (.int (18 : Int32)), .val (.ref t18), .val (.int (1 : Int32))] [])) _
      refine XS.aloadN X169.here hx rfl (hb hby at_204) rfl rfl ?_
      show Steps p.tables e below (T162.setTop (mkF m 205 #[.val (.int p1), .val (.ref b1), .val (.int (18 : Int32)), .val (.ref t18), .val (.int (1 : Int32))] [(.ref t18)])) _
      refine st225.trans ?_
      show Steps p.tables e below (T225.setTop (mkF m 208 #[.val (.int p1), .val (.ref b1), .val (.int (18 : Int32)), .val (.ref t18), .val (.int (1 : Int32))] [(.int (1 : Int32))])) _
      refine XS.iload X225.here hx rfl (hb hby at_208) rfl  ?_
      show Steps p.tables e below (T225.setTop (mkF m 210 #[.val (.int p1), .val (.ref b1), .val (.int (18 : Int32)), .val (.ref t18), .val (.int (1 : Int32))] [(.int (1 : Int32)), (.int (1 : Int32))])) _
      refine XS.icmpNo X225.here hx rfl (hb hby at_210) rfl (teq (by decide)).2 ?_
      show Steps p.tables e below (T225.setTop (mkF m 213 #[.val (.int p1), .val (.ref b1), .val (.int (18 : Int32)), .val (.ref t18), .val (.int (1 : Int32))] [])) _
      refine XS.iconst X225.here hx rfl (hb hby at_213) ?_
      show Steps p.tables e below (T225.setTop (mkF m 214 #[.val (.int p1), .val (.ref b1), .val (.int (18 : Int32)), .val (.ref t18), .val (.int (1 : Int32))] [(.int (1 : Int32))])) _
      refine XS.goto X225.here hx rfl (pc0 := 214) (pc' := 218) rfl (hb hby at_214) (by decide) (by decide) ?_
      show Steps p.tables e below (T225.setTop (mkF m 218 #[.val (.int p1), .val (.ref b1), .val (.int (18 : Int32)), .val (.ref t18), .val (.int (1 : Int32))] [(.int (1 : Int32))])) _
      exact retN X225 hx (t := .boolean) Bd.returns (by simp) (hb hby at_218) hrZ
    · show Q0 Z p1 t0 t1 t2 t3 t4 t5 t6 t7 t8 t9 t10 t11 t12 t13 t14 t15 t16 t17 t18 t19 t20 t21 t22 h0 n0 _ T225.heap _
      rw [e225]
      exact ⟨rfl, N225⟩
  ·  -- 19
    obtain ⟨c227, Arc227, qc227, Sc227, Mc227, Hc227, Gc227⟩ := id V162
    have hinc227 : ¬ ((19 : Int32) < 0 ∨ c227.slots.size ≤ ((19 : Int32)).toNatClampNeg) := inb_of Sc227 ⟨by decide, by decide⟩
    have hatc227 : c227.slots[((19 : Int32)).toNatClampNeg]? = some (.ref t19) := Hc227.at hinc227 rfl
    have fa229 : Exa Z h162 t19 "com/example/hewgen/hewgen/model/ShapeType" := ((((fa143.wr W144).wr W150).wr W156).wr W162)
    obtain ⟨cq228, kq228, q228a, q228b, q228c⟩ := isOf hZ e162 fa229
    obtain ⟨_, _, ⟨T228, L228, k228, n228⟩, -, X228, ⟨Lc228, hQ228, l228, y228, z228⟩, st228⟩ := X169.virtualBack hx (y := (⟨"com/example/hewgen/hewgen/model/ShapeType", "hasNamedMembers", "()Z"⟩ : MethodName)) (z := (⟨"com/example/hewgen/hewgen/model/ShapeType", "hasNamedMembers", "()Z"⟩ : MethodName)) hown (mvT hZ (ow hw 51 rfl)) (mvT hZ (ow hw 52 rfl)) (notFace_of_selects (args := #[]) (mvT hZ (ow hw 54 rfl))) (mvT hZ (ow hw 54 rfl)) (mvT hZ (ow hw 53 rfl)) (by decide) (backOf (W := 0) (rm1n l Z a0 hw [] t19 t17 t18 t13 t14 h162 n0 Z163 fa164 fa165 fa166 fa167 n19_17 n19_18 n19_13 n19_14) hZ (ow hw 55 rfl) (ow hw 3 rfl) (by decide) (by decide)) q228a q228c (g := (mkF m 205 #[.val (.int p1), .val (.ref b1), .val (.int (19 : Int32)), .val (.ref t19), .val (.int (0 : Int32))] [(.ref t19)])) rfl (by rw [hml]; rfl) (Steps.refl _) (argsL := []) (rest := []) (lenOf pd2 rfl) rfl (by show 2 * 0 + _ ≤ _; exact Nat.le_of_eq rfl) (hb hby at_205) (fun _ _ => ⟨rfl, e162, (by decide : 1 + 0 ≤ _), (by decide : 23 + 0 ≤ _)⟩)
    dsimp only [Pt.U, Pt.locs, Pt.cells, Pt.slots] at X228 l228 y228 z228 st228 hQ228
    subst l228 y228 z228
    obtain ⟨rfl, N228q, e228⟩ := hQ228
    have N228 := Fr.app N169 N228q
    obtain ⟨fsZ, hrZ, hrun, hended, hW, hsame⟩ := X228.leave (v := some (.int (1 : Int32))) (fun h => by rw [Bd.returns] at h; cases h)
    refine ⟨_, _, pre168 _ ?_, hrun, hended, _, _, rfl, ?_, ⟨_, rfl⟩, hW, hsame.mono (by decide) (by decide)⟩
    · show Steps p.tables e below (T162.setTop (mkF m 169 #[.val (.int p1), .val (.ref b1), .val (.int (19 : Int32)), .unset, .unset] [])) _
      refine XS.aloadN X169.here hx rfl (hb hby at_169) rfl rfl ?_
      show Steps p.tables e below (T162.setTop (mkF m 170 #[.val (.int p1), .val (.ref b1), .val (.int (19 : Int32)), .unset, .unset] [(.ref b1)])) _
      refine XS.iloadN X169.here hx rfl (hb hby at_170) rfl  ?_
      show Steps p.tables e below (T162.setTop (mkF m 171 #[.val (.int p1), .val (.ref b1), .val (.int (19 : Int32)), .unset, .unset] [(.int (19 : Int32)), (.ref b1)])) _
      refine X169.aaload hx (j := (19 : Int32)) (v := (.ref t19)) (by rw [e162]; exact Arc227.1) (State.isArrayOf_alike hZ.alike Arc227.2.1) rfl Arc227.2.2 hinc227 hatc227 (g := (mkF m 171 #[.val (.int p1), .val (.ref b1), .val (.int (19 : Int32)), .unset, .unset] [(.int (19 : Int32)), (.ref b1)])) rfl rfl (hb hby at_171) _ ?_
      show Steps p.tables e below (T162.setTop (mkF m 172 #[.val (.int p1), .val (.ref b1), .val (.int (19 : Int32)), .unset, .unset] [(.ref t19)])) _
      refine XS.astoreN X169.here hx rfl (hb hby at_172) rfl rfl (l' := #[.val (.int p1), .val (.ref b1), .val (.int (19 : Int32)), .val (.ref t19), .unset]) rfl ?_
      show Steps p.tables e below (T162.setTop (mkF m 173 #[.val (.int p1), .val (.ref b1), .val (.int (19 : Int32)), .val (.ref t19), .unset] [])) _
      refine XS.iloadN X169.here hx rfl (hb hby at_173) rfl  ?_
      show Steps p.tables e below (T162.setTop (mkF m 174 #[.val (.int p1), .val (.ref b1), .val (.int (19 : Int32)), .val (.ref t19), .unset] [(.int (19 : Int32))])) _
      refine XS.bipush X169.here hx rfl (hb hby at_174) ?_
      show Steps p.tables e below (T162.setTop (mkF m 176 #[.val (.int p1), .val (.ref b1), .val (.int (19 : Int32)), .val (.ref t19), .unset] [(.int (13 : Int32)), (.int (19 : Int32))])) _
      refine XS.icmpNo X169.here hx rfl (hb hby at_176) rfl (feq (by decide)).1 ?_
      show Steps p.tables e below (T162.setTop (mkF m 179 #[.val (.int p1), .val (.ref b1), .val (.int (19 : Int32)), .val (.ref t19), .unset] [])) _
      refine XS.iloadN X169.here hx rfl (hb hby at_179) rfl  ?_
      show Steps p.tables e below (T162.setTop (mkF m 180 #[.val (.int p1), .val (.ref b1), .val (.int (19 : Int32)), .val (.ref t19), .unset] [(.int (19 : Int32))])) _
      refine XS.bipush X169.here hx rfl (hb hby at_180) ?_
      show Steps p.tables e below (T162.setTop (mkF m 182 #[.val (.int p1), .val (.ref b1), .val (.int (19 : Int32)), .val (.ref t19), .unset] [(.int (14 : Int32)), (.int (19 : Int32))])) _
      refine XS.icmpNo X169.here hx rfl (hb hby at_182) rfl (feq (by decide)).1 ?_
      show Steps p.tables e below (T162.setTop (mkF m 185 #[.val (.int p1), .val (.ref b1), .val (.int (19 : Int32)), .val (.ref t19), .unset] [])) _
      refine XS.iloadN X169.here hx rfl (hb hby at_185) rfl  ?_
      show Steps p.tables e below (T162.setTop (mkF m 186 #[.val (.int p1), .val (.ref b1), .val (.int (19 : Int32)), .val (.ref t19), .unset] [(.int (19 : Int32))])) _
      refine XS.bipush X169.here hx rfl (hb hby at_186) ?_
      show Steps p.tables e below (T162.setTop (mkF m 188 #[.val (.int p1), .val (.ref b1), .val (.int (19 : Int32)), .val (.ref t19), .unset] [(.int (17 : Int32)), (.int (19 : Int32))])) _
      refine XS.icmpNo X169.here hx rfl (hb hby at_188) rfl (feq (by decide)).1 ?_
      show Steps p.tables e below (T162.setTop (mkF m 191 #[.val (.int p1), .val (.ref b1), .val (.int (19 : Int32)), .val (.ref t19), .unset] [])) _
      refine XS.iloadN X169.here hx rfl (hb hby at_191) rfl  ?_
      show Steps p.tables e below (T162.setTop (mkF m 192 #[.val (.int p1), .val (.ref b1), .val (.int (19 : Int32)), .val (.ref t19), .unset] [(.int (19 : Int32))])) _
      refine XS.bipush X169.here hx rfl (hb hby at_192) ?_
      show Steps p.tables e below (T162.setTop (mkF m 194 #[.val (.int p1), .val (.ref b1), .val (.int (19 : Int32)), .val (.ref t19), .unset] [(.int (18 : Int32)), (.int (19 : Int32))])) _
      refine XS.icmpYes X169.here hx rfl (pc0 := 194) (pc' := 201) rfl (hb hby at_194) rfl (feq (by decide)).2 (by decide) (by decide) ?_
      show Steps p.tables e below (T162.setTop (mkF m 201 #[.val (.int p1), .val (.ref b1), .val (.int (19 : Int32)), .val (.ref t19), .unset] [])) _
      refine XS.iconst X169.here hx rfl (hb hby at_201) ?_
      show Steps p.tables e below (T162.setTop (mkF m 202 #[.val (.int p1), .val (.ref b1), .val (.int (19 : Int32)), .val (.ref t19), .unset] [(.int (0 : Int32))])) _
      refine XS.istore X169.here hx rfl (hb hby at_202) rfl (l' := #[.val (.int p1), .val (.ref b1), .val (.int (19 : Int32)), .val (.ref t19), .val (.int (0 : Int32))]) rfl ?_
      show Steps p.tables e below (T162.setTop (mkF m 204 #[.val (.int p1), .val (.ref b1), .val (.int (19 : Int32)), .val (.ref t19), .val (.int (0 : Int32))] [])) _
      refine XS.aloadN X169.here hx rfl (hb hby at_204) rfl rfl ?_
      show Steps p.tables e below (T162.setTop (mkF m 205 #[.val (.int p1), .val (.ref b1), .val (.int (19 : Int32)), .val (.ref t19), .val (.int (0 : Int32))] [(.ref t19)])) _
      refine st228.trans ?_
      show Steps p.tables e below (T228.setTop (mkF m 208 #[.val (.int p1), .val (.ref b1), .val (.int (19 : Int32)), .val (.ref t19), .val (.int (0 : Int32))] [(.int (0 : Int32))])) _
      refine XS.iload X228.here hx rfl (hb hby at_208) rfl  ?_
      show Steps p.tables e below (T228.setTop (mkF m 210 #[.val (.int p1), .val (.ref b1), .val (.int (19 : Int32)), .val (.ref t19), .val (.int (0 : Int32))] [(.int (0 : Int32)), (.int (0 : Int32))])) _
      refine XS.icmpNo X228.here hx rfl (hb hby at_210) rfl (teq (by decide)).2 ?_
      show Steps p.tables e below (T228.setTop (mkF m 213 #[.val (.int p1), .val (.ref b1), .val (.int (19 : Int32)), .val (.ref t19), .val (.int (0 : Int32))] [])) _
      refine XS.iconst X228.here hx rfl (hb hby at_213) ?_
      show Steps p.tables e below (T228.setTop (mkF m 214 #[.val (.int p1), .val (.ref b1), .val (.int (19 : Int32)), .val (.ref t19), .val (.int (0 : Int32))] [(.int (1 : Int32))])) _
      refine XS.goto X228.here hx rfl (pc0 := 214) (pc' := 218) rfl (hb hby at_214) (by decide) (by decide) ?_
      show Steps p.tables e below (T228.setTop (mkF m 218 #[.val (.int p1), .val (.ref b1), .val (.int (19 : Int32)), .val (.ref t19), .val (.int (0 : Int32))] [(.int (1 : Int32))])) _
      exact retN X228 hx (t := .boolean) Bd.returns (by simp) (hb hby at_218) hrZ
    · show Q0 Z p1 t0 t1 t2 t3 t4 t5 t6 t7 t8 t9 t10 t11 t12 t13 t14 t15 t16 t17 t18 t19 t20 t21 t22 h0 n0 _ T228.heap _
      rw [e228]
      exact ⟨rfl, N228⟩
  ·  -- 20
    obtain ⟨c230, Arc230, qc230, Sc230, Mc230, Hc230, Gc230⟩ := id V162
    have hinc230 : ¬ ((20 : Int32) < 0 ∨ c230.slots.size ≤ ((20 : Int32)).toNatClampNeg) := inb_of Sc230 ⟨by decide, by decide⟩
    have hatc230 : c230.slots[((20 : Int32)).toNatClampNeg]? = some (.ref t20) := Hc230.at hinc230 rfl
    have fa232 : Exa Z h162 t20 "com/example/hewgen/hewgen/model/ShapeType" := (((fa149.wr W150).wr W156).wr W162)
    obtain ⟨cq231, kq231, q231a, q231b, q231c⟩ := isOf hZ e162 fa232
    obtain ⟨_, _, ⟨T231, L231, k231, n231⟩, -, X231, ⟨Lc231, hQ231, l231, y231, z231⟩, st231⟩ := X169.virtualBack hx (y := (⟨"com/example/hewgen/hewgen/model/ShapeType", "hasNamedMembers", "()Z"⟩ : MethodName)) (z := (⟨"com/example/hewgen/hewgen/model/ShapeType", "hasNamedMembers", "()Z"⟩ : MethodName)) hown (mvT hZ (ow hw 51 rfl)) (mvT hZ (ow hw 52 rfl)) (notFace_of_selects (args := #[]) (mvT hZ (ow hw 54 rfl))) (mvT hZ (ow hw 54 rfl)) (mvT hZ (ow hw 53 rfl)) (by decide) (backOf (W := 0) (rm1n l Z a0 hw [] t20 t17 t18 t13 t14 h162 n0 Z163 fa164 fa165 fa166 fa167 n20_17 n20_18 n20_13 n20_14) hZ (ow hw 55 rfl) (ow hw 3 rfl) (by decide) (by decide)) q231a q231c (g := (mkF m 205 #[.val (.int p1), .val (.ref b1), .val (.int (20 : Int32)), .val (.ref t20), .val (.int (0 : Int32))] [(.ref t20)])) rfl (by rw [hml]; rfl) (Steps.refl _) (argsL := []) (rest := []) (lenOf pd2 rfl) rfl (by show 2 * 0 + _ ≤ _; exact Nat.le_of_eq rfl) (hb hby at_205) (fun _ _ => ⟨rfl, e162, (by decide : 1 + 0 ≤ _), (by decide : 23 + 0 ≤ _)⟩)
    dsimp only [Pt.U, Pt.locs, Pt.cells, Pt.slots] at X231 l231 y231 z231 st231 hQ231
    subst l231 y231 z231
    obtain ⟨rfl, N231q, e231⟩ := hQ231
    have N231 := Fr.app N169 N231q
    obtain ⟨fsZ, hrZ, hrun, hended, hW, hsame⟩ := X231.leave (v := some (.int (1 : Int32))) (fun h => by rw [Bd.returns] at h; cases h)
    refine ⟨_, _, pre168 _ ?_, hrun, hended, _, _, rfl, ?_, ⟨_, rfl⟩, hW, hsame.mono (by decide) (by decide)⟩
    · show Steps p.tables e below (T162.setTop (mkF m 169 #[.val (.int p1), .val (.ref b1), .val (.int (20 : Int32)), .unset, .unset] [])) _
      refine XS.aloadN X169.here hx rfl (hb hby at_169) rfl rfl ?_
      show Steps p.tables e below (T162.setTop (mkF m 170 #[.val (.int p1), .val (.ref b1), .val (.int (20 : Int32)), .unset, .unset] [(.ref b1)])) _
      refine XS.iloadN X169.here hx rfl (hb hby at_170) rfl  ?_
      show Steps p.tables e below (T162.setTop (mkF m 171 #[.val (.int p1), .val (.ref b1), .val (.int (20 : Int32)), .unset, .unset] [(.int (20 : Int32)), (.ref b1)])) _
      refine X169.aaload hx (j := (20 : Int32)) (v := (.ref t20)) (by rw [e162]; exact Arc230.1) (State.isArrayOf_alike hZ.alike Arc230.2.1) rfl Arc230.2.2 hinc230 hatc230 (g := (mkF m 171 #[.val (.int p1), .val (.ref b1), .val (.int (20 : Int32)), .unset, .unset] [(.int (20 : Int32)), (.ref b1)])) rfl rfl (hb hby at_171) _ ?_
      show Steps p.tables e below (T162.setTop (mkF m 172 #[.val (.int p1), .val (.ref b1), .val (.int (20 : Int32)), .unset, .unset] [(.ref t20)])) _
      refine XS.astoreN X169.here hx rfl (hb hby at_172) rfl rfl (l' := #[.val (.int p1), .val (.ref b1), .val (.int (20 : Int32)), .val (.ref t20), .unset]) rfl ?_
      show Steps p.tables e below (T162.setTop (mkF m 173 #[.val (.int p1), .val (.ref b1), .val (.int (20 : Int32)), .val (.ref t20), .unset] [])) _
      refine XS.iloadN X169.here hx rfl (hb hby at_173) rfl  ?_
      show Steps p.tables e below (T162.setTop (mkF m 174 #[.val (.int p1), .val (.ref b1), .val (.int (20 : Int32)), .val (.ref t20), .unset] [(.int (20 : Int32))])) _
      refine XS.bipush X169.here hx rfl (hb hby at_174) ?_
      show Steps p.tables e below (T162.setTop (mkF m 176 #[.val (.int p1), .val (.ref b1), .val (.int (20 : Int32)), .val (.ref t20), .unset] [(.int (13 : Int32)), (.int (20 : Int32))])) _
      refine XS.icmpNo X169.here hx rfl (hb hby at_176) rfl (feq (by decide)).1 ?_
      show Steps p.tables e below (T162.setTop (mkF m 179 #[.val (.int p1), .val (.ref b1), .val (.int (20 : Int32)), .val (.ref t20), .unset] [])) _
      refine XS.iloadN X169.here hx rfl (hb hby at_179) rfl  ?_
      show Steps p.tables e below (T162.setTop (mkF m 180 #[.val (.int p1), .val (.ref b1), .val (.int (20 : Int32)), .val (.ref t20), .unset] [(.int (20 : Int32))])) _
      refine XS.bipush X169.here hx rfl (hb hby at_180) ?_
      show Steps p.tables e below (T162.setTop (mkF m 182 #[.val (.int p1), .val (.ref b1), .val (.int (20 : Int32)), .val (.ref t20), .unset] [(.int (14 : Int32)), (.int (20 : Int32))])) _
      refine XS.icmpNo X169.here hx rfl (hb hby at_182) rfl (feq (by decide)).1 ?_
      show Steps p.tables e below (T162.setTop (mkF m 185 #[.val (.int p1), .val (.ref b1), .val (.int (20 : Int32)), .val (.ref t20), .unset] [])) _
      refine XS.iloadN X169.here hx rfl (hb hby at_185) rfl  ?_
      show Steps p.tables e below (T162.setTop (mkF m 186 #[.val (.int p1), .val (.ref b1), .val (.int (20 : Int32)), .val (.ref t20), .unset] [(.int (20 : Int32))])) _
      refine XS.bipush X169.here hx rfl (hb hby at_186) ?_
      show Steps p.tables e below (T162.setTop (mkF m 188 #[.val (.int p1), .val (.ref b1), .val (.int (20 : Int32)), .val (.ref t20), .unset] [(.int (17 : Int32)), (.int (20 : Int32))])) _
      refine XS.icmpNo X169.here hx rfl (hb hby at_188) rfl (feq (by decide)).1 ?_
      show Steps p.tables e below (T162.setTop (mkF m 191 #[.val (.int p1), .val (.ref b1), .val (.int (20 : Int32)), .val (.ref t20), .unset] [])) _
      refine XS.iloadN X169.here hx rfl (hb hby at_191) rfl  ?_
      show Steps p.tables e below (T162.setTop (mkF m 192 #[.val (.int p1), .val (.ref b1), .val (.int (20 : Int32)), .val (.ref t20), .unset] [(.int (20 : Int32))])) _
      refine XS.bipush X169.here hx rfl (hb hby at_192) ?_
      show Steps p.tables e below (T162.setTop (mkF m 194 #[.val (.int p1), .val (.ref b1), .val (.int (20 : Int32)), .val (.ref t20), .unset] [(.int (18 : Int32)), (.int (20 : Int32))])) _
      refine XS.icmpYes X169.here hx rfl (pc0 := 194) (pc' := 201) rfl (hb hby at_194) rfl (feq (by decide)).2 (by decide) (by decide) ?_
      show Steps p.tables e below (T162.setTop (mkF m 201 #[.val (.int p1), .val (.ref b1), .val (.int (20 : Int32)), .val (.ref t20), .unset] [])) _
      refine XS.iconst X169.here hx rfl (hb hby at_201) ?_
      show Steps p.tables e below (T162.setTop (mkF m 202 #[.val (.int p1), .val (.ref b1), .val (.int (20 : Int32)), .val (.ref t20), .unset] [(.int (0 : Int32))])) _
      refine XS.istore X169.here hx rfl (hb hby at_202) rfl (l' := #[.val (.int p1), .val (.ref b1), .val (.int (20 : Int32)), .val (.ref t20), .val (.int (0 : Int32))]) rfl ?_
      show Steps p.tables e below (T162.setTop (mkF m 204 #[.val (.int p1), .val (.ref b1), .val (.int (20 : Int32)), .val (.ref t20), .val (.int (0 : Int32))] [])) _
      refine XS.aloadN X169.here hx rfl (hb hby at_204) rfl rfl ?_
      show Steps p.tables e below (T162.setTop (mkF m 205 #[.val (.int p1), .val (.ref b1), .val (.int (20 : Int32)), .val (.ref t20), .val (.int (0 : Int32))] [(.ref t20)])) _
      refine st231.trans ?_
      show Steps p.tables e below (T231.setTop (mkF m 208 #[.val (.int p1), .val (.ref b1), .val (.int (20 : Int32)), .val (.ref t20), .val (.int (0 : Int32))] [(.int (0 : Int32))])) _
      refine XS.iload X231.here hx rfl (hb hby at_208) rfl  ?_
      show Steps p.tables e below (T231.setTop (mkF m 210 #[.val (.int p1), .val (.ref b1), .val (.int (20 : Int32)), .val (.ref t20), .val (.int (0 : Int32))] [(.int (0 : Int32)), (.int (0 : Int32))])) _
      refine XS.icmpNo X231.here hx rfl (hb hby at_210) rfl (teq (by decide)).2 ?_
      show Steps p.tables e below (T231.setTop (mkF m 213 #[.val (.int p1), .val (.ref b1), .val (.int (20 : Int32)), .val (.ref t20), .val (.int (0 : Int32))] [])) _
      refine XS.iconst X231.here hx rfl (hb hby at_213) ?_
      show Steps p.tables e below (T231.setTop (mkF m 214 #[.val (.int p1), .val (.ref b1), .val (.int (20 : Int32)), .val (.ref t20), .val (.int (0 : Int32))] [(.int (1 : Int32))])) _
      refine XS.goto X231.here hx rfl (pc0 := 214) (pc' := 218) rfl (hb hby at_214) (by decide) (by decide) ?_
      show Steps p.tables e below (T231.setTop (mkF m 218 #[.val (.int p1), .val (.ref b1), .val (.int (20 : Int32)), .val (.ref t20), .val (.int (0 : Int32))] [(.int (1 : Int32))])) _
      exact retN X231 hx (t := .boolean) Bd.returns (by simp) (hb hby at_218) hrZ
    · show Q0 Z p1 t0 t1 t2 t3 t4 t5 t6 t7 t8 t9 t10 t11 t12 t13 t14 t15 t16 t17 t18 t19 t20 t21 t22 h0 n0 _ T231.heap _
      rw [e231]
      exact ⟨rfl, N231⟩
  ·  -- 21
    obtain ⟨c233, Arc233, qc233, Sc233, Mc233, Hc233, Gc233⟩ := id V162
    have hinc233 : ¬ ((21 : Int32) < 0 ∨ c233.slots.size ≤ ((21 : Int32)).toNatClampNeg) := inb_of Sc233 ⟨by decide, by decide⟩
    have hatc233 : c233.slots[((21 : Int32)).toNatClampNeg]? = some (.ref t21) := Hc233.at hinc233 rfl
    have fa235 : Exa Z h162 t21 "com/example/hewgen/hewgen/model/ShapeType" := ((fa155.wr W156).wr W162)
    obtain ⟨cq234, kq234, q234a, q234b, q234c⟩ := isOf hZ e162 fa235
    obtain ⟨_, _, ⟨T234, L234, k234, n234⟩, -, X234, ⟨Lc234, hQ234, l234, y234, z234⟩, st234⟩ := X169.virtualBack hx (y := (⟨"com/example/hewgen/hewgen/model/ShapeType", "hasNamedMembers", "()Z"⟩ : MethodName)) (z := (⟨"com/example/hewgen/hewgen/model/ShapeType", "hasNamedMembers", "()Z"⟩ : MethodName)) hown (mvT hZ (ow hw 51 rfl)) (mvT hZ (ow hw 52 rfl)) (notFace_of_selects (args := #[]) (mvT hZ (ow hw 54 rfl))) (mvT hZ (ow hw 54 rfl)) (mvT hZ (ow hw 53 rfl)) (by decide) (backOf (W := 0) (rm1n l Z a0 hw [] t21 t17 t18 t13 t14 h162 n0 Z163 fa164 fa165 fa166 fa167 n21_17 n21_18 n21_13 n21_14) hZ (ow hw 55 rfl) (ow hw 3 rfl) (by decide) (by decide)) q234a q234c (g := (mkF m 205 #[.val (.int p1), .val (.ref b1), .val (.int (21 : Int32)), .val (.ref t21), .val (.int (0 : Int32))] [(.ref t21)])) rfl (by rw [hml]; rfl) (Steps.refl _) (argsL := []) (rest := []) (lenOf pd2 rfl) rfl (by show 2 * 0 + _ ≤ _; exact Nat.le_of_eq rfl) (hb hby at_205) (fun _ _ => ⟨rfl, e162, (by decide : 1 + 0 ≤ _), (by decide : 23 + 0 ≤ _)⟩)
    dsimp only [Pt.U, Pt.locs, Pt.cells, Pt.slots] at X234 l234 y234 z234 st234 hQ234
    subst l234 y234 z234
    obtain ⟨rfl, N234q, e234⟩ := hQ234
    have N234 := Fr.app N169 N234q
    obtain ⟨fsZ, hrZ, hrun, hended, hW, hsame⟩ := X234.leave (v := some (.int (1 : Int32))) (fun h => by rw [Bd.returns] at h; cases h)
    refine ⟨_, _, pre168 _ ?_, hrun, hended, _, _, rfl, ?_, ⟨_, rfl⟩, hW, hsame.mono (by decide) (by decide)⟩
    · show Steps p.tables e below (T162.setTop (mkF m 169 #[.val (.int p1), .val (.ref b1), .val (.int (21 : Int32)), .unset, .unset] [])) _
      refine XS.aloadN X169.here hx rfl (hb hby at_169) rfl rfl ?_
      show Steps p.tables e below (T162.setTop (mkF m 170 #[.val (.int p1), .val (.ref b1), .val (.int (21 : Int32)), .unset, .unset] [(.ref b1)])) _
      refine XS.iloadN X169.here hx rfl (hb hby at_170) rfl  ?_
      show Steps p.tables e below (T162.setTop (mkF m 171 #[.val (.int p1), .val (.ref b1), .val (.int (21 : Int32)), .unset, .unset] [(.int (21 : Int32)), (.ref b1)])) _
      refine X169.aaload hx (j := (21 : Int32)) (v := (.ref t21)) (by rw [e162]; exact Arc233.1) (State.isArrayOf_alike hZ.alike Arc233.2.1) rfl Arc233.2.2 hinc233 hatc233 (g := (mkF m 171 #[.val (.int p1), .val (.ref b1), .val (.int (21 : Int32)), .unset, .unset] [(.int (21 : Int32)), (.ref b1)])) rfl rfl (hb hby at_171) _ ?_
      show Steps p.tables e below (T162.setTop (mkF m 172 #[.val (.int p1), .val (.ref b1), .val (.int (21 : Int32)), .unset, .unset] [(.ref t21)])) _
      refine XS.astoreN X169.here hx rfl (hb hby at_172) rfl rfl (l' := #[.val (.int p1), .val (.ref b1), .val (.int (21 : Int32)), .val (.ref t21), .unset]) rfl ?_
      show Steps p.tables e below (T162.setTop (mkF m 173 #[.val (.int p1), .val (.ref b1), .val (.int (21 : Int32)), .val (.ref t21), .unset] [])) _
      refine XS.iloadN X169.here hx rfl (hb hby at_173) rfl  ?_
      show Steps p.tables e below (T162.setTop (mkF m 174 #[.val (.int p1), .val (.ref b1), .val (.int (21 : Int32)), .val (.ref t21), .unset] [(.int (21 : Int32))])) _
      refine XS.bipush X169.here hx rfl (hb hby at_174) ?_
      show Steps p.tables e below (T162.setTop (mkF m 176 #[.val (.int p1), .val (.ref b1), .val (.int (21 : Int32)), .val (.ref t21), .unset] [(.int (13 : Int32)), (.int (21 : Int32))])) _
      refine XS.icmpNo X169.here hx rfl (hb hby at_176) rfl (feq (by decide)).1 ?_
      show Steps p.tables e below (T162.setTop (mkF m 179 #[.val (.int p1), .val (.ref b1), .val (.int (21 : Int32)), .val (.ref t21), .unset] [])) _
      refine XS.iloadN X169.here hx rfl (hb hby at_179) rfl  ?_
      show Steps p.tables e below (T162.setTop (mkF m 180 #[.val (.int p1), .val (.ref b1), .val (.int (21 : Int32)), .val (.ref t21), .unset] [(.int (21 : Int32))])) _
      refine XS.bipush X169.here hx rfl (hb hby at_180) ?_
      show Steps p.tables e below (T162.setTop (mkF m 182 #[.val (.int p1), .val (.ref b1), .val (.int (21 : Int32)), .val (.ref t21), .unset] [(.int (14 : Int32)), (.int (21 : Int32))])) _
      refine XS.icmpNo X169.here hx rfl (hb hby at_182) rfl (feq (by decide)).1 ?_
      show Steps p.tables e below (T162.setTop (mkF m 185 #[.val (.int p1), .val (.ref b1), .val (.int (21 : Int32)), .val (.ref t21), .unset] [])) _
      refine XS.iloadN X169.here hx rfl (hb hby at_185) rfl  ?_
      show Steps p.tables e below (T162.setTop (mkF m 186 #[.val (.int p1), .val (.ref b1), .val (.int (21 : Int32)), .val (.ref t21), .unset] [(.int (21 : Int32))])) _
      refine XS.bipush X169.here hx rfl (hb hby at_186) ?_
      show Steps p.tables e below (T162.setTop (mkF m 188 #[.val (.int p1), .val (.ref b1), .val (.int (21 : Int32)), .val (.ref t21), .unset] [(.int (17 : Int32)), (.int (21 : Int32))])) _
      refine XS.icmpNo X169.here hx rfl (hb hby at_188) rfl (feq (by decide)).1 ?_
      show Steps p.tables e below (T162.setTop (mkF m 191 #[.val (.int p1), .val (.ref b1), .val (.int (21 : Int32)), .val (.ref t21), .unset] [])) _
      refine XS.iloadN X169.here hx rfl (hb hby at_191) rfl  ?_
      show Steps p.tables e below (T162.setTop (mkF m 192 #[.val (.int p1), .val (.ref b1), .val (.int (21 : Int32)), .val (.ref t21), .unset] [(.int (21 : Int32))])) _
      refine XS.bipush X169.here hx rfl (hb hby at_192) ?_
      show Steps p.tables e below (T162.setTop (mkF m 194 #[.val (.int p1), .val (.ref b1), .val (.int (21 : Int32)), .val (.ref t21), .unset] [(.int (18 : Int32)), (.int (21 : Int32))])) _
      refine XS.icmpYes X169.here hx rfl (pc0 := 194) (pc' := 201) rfl (hb hby at_194) rfl (feq (by decide)).2 (by decide) (by decide) ?_
      show Steps p.tables e below (T162.setTop (mkF m 201 #[.val (.int p1), .val (.ref b1), .val (.int (21 : Int32)), .val (.ref t21), .unset] [])) _
      refine XS.iconst X169.here hx rfl (hb hby at_201) ?_
      show Steps p.tables e below (T162.setTop (mkF m 202 #[.val (.int p1), .val (.ref b1), .val (.int (21 : Int32)), .val (.ref t21), .unset] [(.int (0 : Int32))])) _
      refine XS.istore X169.here hx rfl (hb hby at_202) rfl (l' := #[.val (.int p1), .val (.ref b1), .val (.int (21 : Int32)), .val (.ref t21), .val (.int (0 : Int32))]) rfl ?_
      show Steps p.tables e below (T162.setTop (mkF m 204 #[.val (.int p1), .val (.ref b1), .val (.int (21 : Int32)), .val (.ref t21), .val (.int (0 : Int32))] [])) _
      refine XS.aloadN X169.here hx rfl (hb hby at_204) rfl rfl ?_
      show Steps p.tables e below (T162.setTop (mkF m 205 #[.val (.int p1), .val (.ref b1), .val (.int (21 : Int32)), .val (.ref t21), .val (.int (0 : Int32))] [(.ref t21)])) _
      refine st234.trans ?_
      show Steps p.tables e below (T234.setTop (mkF m 208 #[.val (.int p1), .val (.ref b1), .val (.int (21 : Int32)), .val (.ref t21), .val (.int (0 : Int32))] [(.int (0 : Int32))])) _
      refine XS.iload X234.here hx rfl (hb hby at_208) rfl  ?_
      show Steps p.tables e below (T234.setTop (mkF m 210 #[.val (.int p1), .val (.ref b1), .val (.int (21 : Int32)), .val (.ref t21), .val (.int (0 : Int32))] [(.int (0 : Int32)), (.int (0 : Int32))])) _
      refine XS.icmpNo X234.here hx rfl (hb hby at_210) rfl (teq (by decide)).2 ?_
      show Steps p.tables e below (T234.setTop (mkF m 213 #[.val (.int p1), .val (.ref b1), .val (.int (21 : Int32)), .val (.ref t21), .val (.int (0 : Int32))] [])) _
      refine XS.iconst X234.here hx rfl (hb hby at_213) ?_
      show Steps p.tables e below (T234.setTop (mkF m 214 #[.val (.int p1), .val (.ref b1), .val (.int (21 : Int32)), .val (.ref t21), .val (.int (0 : Int32))] [(.int (1 : Int32))])) _
      refine XS.goto X234.here hx rfl (pc0 := 214) (pc' := 218) rfl (hb hby at_214) (by decide) (by decide) ?_
      show Steps p.tables e below (T234.setTop (mkF m 218 #[.val (.int p1), .val (.ref b1), .val (.int (21 : Int32)), .val (.ref t21), .val (.int (0 : Int32))] [(.int (1 : Int32))])) _
      exact retN X234 hx (t := .boolean) Bd.returns (by simp) (hb hby at_218) hrZ
    · show Q0 Z p1 t0 t1 t2 t3 t4 t5 t6 t7 t8 t9 t10 t11 t12 t13 t14 t15 t16 t17 t18 t19 t20 t21 t22 h0 n0 _ T234.heap _
      rw [e234]
      exact ⟨rfl, N234⟩
  ·  -- 22
    obtain ⟨c236, Arc236, qc236, Sc236, Mc236, Hc236, Gc236⟩ := id V162
    have hinc236 : ¬ ((22 : Int32) < 0 ∨ c236.slots.size ≤ ((22 : Int32)).toNatClampNeg) := inb_of Sc236 ⟨by decide, by decide⟩
    have hatc236 : c236.slots[((22 : Int32)).toNatClampNeg]? = some (.ref t22) := Hc236.at hinc236 rfl
    have fa238 : Exa Z h162 t22 "com/example/hewgen/hewgen/model/ShapeType" := (fa161.wr W162)
    obtain ⟨cq237, kq237, q237a, q237b, q237c⟩ := isOf hZ e162 fa238
    obtain ⟨_, _, ⟨T237, L237, k237, n237⟩, -, X237, ⟨Lc237, hQ237, l237, y237, z237⟩, st237⟩ := X169.virtualBack hx (y := (⟨"com/example/hewgen/hewgen/model/ShapeType", "hasNamedMembers", "()Z"⟩ : MethodName)) (z := (⟨"com/example/hewgen/hewgen/model/ShapeType", "hasNamedMembers", "()Z"⟩ : MethodName)) hown (mvT hZ (ow hw 51 rfl)) (mvT hZ (ow hw 52 rfl)) (notFace_of_selects (args := #[]) (mvT hZ (ow hw 54 rfl))) (mvT hZ (ow hw 54 rfl)) (mvT hZ (ow hw 53 rfl)) (by decide) (backOf (W := 0) (rm1n l Z a0 hw [] t22 t17 t18 t13 t14 h162 n0 Z163 fa164 fa165 fa166 fa167 n22_17 n22_18 n22_13 n22_14) hZ (ow hw 55 rfl) (ow hw 3 rfl) (by decide) (by decide)) q237a q237c (g := (mkF m 205 #[.val (.int p1), .val (.ref b1), .val (.int (22 : Int32)), .val (.ref t22), .val (.int (0 : Int32))] [(.ref t22)])) rfl (by rw [hml]; rfl) (Steps.refl _) (argsL := []) (rest := []) (lenOf pd2 rfl) rfl (by show 2 * 0 + _ ≤ _; exact Nat.le_of_eq rfl) (hb hby at_205) (fun _ _ => ⟨rfl, e162, (by decide : 1 + 0 ≤ _), (by decide : 23 + 0 ≤ _)⟩)
    dsimp only [Pt.U, Pt.locs, Pt.cells, Pt.slots] at X237 l237 y237 z237 st237 hQ237
    subst l237 y237 z237
    obtain ⟨rfl, N237q, e237⟩ := hQ237
    have N237 := Fr.app N169 N237q
    obtain ⟨fsZ, hrZ, hrun, hended, hW, hsame⟩ := X237.leave (v := some (.int (1 : Int32))) (fun h => by rw [Bd.returns] at h; cases h)
    refine ⟨_, _, pre168 _ ?_, hrun, hended, _, _, rfl, ?_, ⟨_, rfl⟩, hW, hsame.mono (by decide) (by decide)⟩
    · show Steps p.tables e below (T162.setTop (mkF m 169 #[.val (.int p1), .val (.ref b1), .val (.int (22 : Int32)), .unset, .unset] [])) _
      refine XS.aloadN X169.here hx rfl (hb hby at_169) rfl rfl ?_
      show Steps p.tables e below (T162.setTop (mkF m 170 #[.val (.int p1), .val (.ref b1), .val (.int (22 : Int32)), .unset, .unset] [(.ref b1)])) _
      refine XS.iloadN X169.here hx rfl (hb hby at_170) rfl  ?_
      show Steps p.tables e below (T162.setTop (mkF m 171 #[.val (.int p1), .val (.ref b1), .val (.int (22 : Int32)), .unset, .unset] [(.int (22 : Int32)), (.ref b1)])) _
      refine X169.aaload hx (j := (22 : Int32)) (v := (.ref t22)) (by rw [e162]; exact Arc236.1) (State.isArrayOf_alike hZ.alike Arc236.2.1) rfl Arc236.2.2 hinc236 hatc236 (g := (mkF m 171 #[.val (.int p1), .val (.ref b1), .val (.int (22 : Int32)), .unset, .unset] [(.int (22 : Int32)), (.ref b1)])) rfl rfl (hb hby at_171) _ ?_
      show Steps p.tables e below (T162.setTop (mkF m 172 #[.val (.int p1), .val (.ref b1), .val (.int (22 : Int32)), .unset, .unset] [(.ref t22)])) _
      refine XS.astoreN X169.here hx rfl (hb hby at_172) rfl rfl (l' := #[.val (.int p1), .val (.ref b1), .val (.int (22 : Int32)), .val (.ref t22), .unset]) rfl ?_
      show Steps p.tables e below (T162.setTop (mkF m 173 #[.val (.int p1), .val (.ref b1), .val (.int (22 : Int32)), .val (.ref t22), .unset] [])) _
      refine XS.iloadN X169.here hx rfl (hb hby at_173) rfl  ?_
      show Steps p.tables e below (T162.setTop (mkF m 174 #[.val (.int p1), .val (.ref b1), .val (.int (22 : Int32)), .val (.ref t22), .unset] [(.int (22 : Int32))])) _
      refine XS.bipush X169.here hx rfl (hb hby at_174) ?_
      show Steps p.tables e below (T162.setTop (mkF m 176 #[.val (.int p1), .val (.ref b1), .val (.int (22 : Int32)), .val (.ref t22), .unset] [(.int (13 : Int32)), (.int (22 : Int32))])) _
      refine XS.icmpNo X169.here hx rfl (hb hby at_176) rfl (feq (by decide)).1 ?_
      show Steps p.tables e below (T162.setTop (mkF m 179 #[.val (.int p1), .val (.ref b1), .val (.int (22 : Int32)), .val (.ref t22), .unset] [])) _
      refine XS.iloadN X169.here hx rfl (hb hby at_179) rfl  ?_
      show Steps p.tables e below (T162.setTop (mkF m 180 #[.val (.int p1), .val (.ref b1), .val (.int (22 : Int32)), .val (.ref t22), .unset] [(.int (22 : Int32))])) _
      refine XS.bipush X169.here hx rfl (hb hby at_180) ?_
      show Steps p.tables e below (T162.setTop (mkF m 182 #[.val (.int p1), .val (.ref b1), .val (.int (22 : Int32)), .val (.ref t22), .unset] [(.int (14 : Int32)), (.int (22 : Int32))])) _
      refine XS.icmpNo X169.here hx rfl (hb hby at_182) rfl (feq (by decide)).1 ?_
      show Steps p.tables e below (T162.setTop (mkF m 185 #[.val (.int p1), .val (.ref b1), .val (.int (22 : Int32)), .val (.ref t22), .unset] [])) _
      refine XS.iloadN X169.here hx rfl (hb hby at_185) rfl  ?_
      show Steps p.tables e below (T162.setTop (mkF m 186 #[.val (.int p1), .val (.ref b1), .val (.int (22 : Int32)), .val (.ref t22), .unset] [(.int (22 : Int32))])) _
      refine XS.bipush X169.here hx rfl (hb hby at_186) ?_
      show Steps p.tables e below (T162.setTop (mkF m 188 #[.val (.int p1), .val (.ref b1), .val (.int (22 : Int32)), .val (.ref t22), .unset] [(.int (17 : Int32)), (.int (22 : Int32))])) _
      refine XS.icmpNo X169.here hx rfl (hb hby at_188) rfl (feq (by decide)).1 ?_
      show Steps p.tables e below (T162.setTop (mkF m 191 #[.val (.int p1), .val (.ref b1), .val (.int (22 : Int32)), .val (.ref t22), .unset] [])) _
      refine XS.iloadN X169.here hx rfl (hb hby at_191) rfl  ?_
      show Steps p.tables e below (T162.setTop (mkF m 192 #[.val (.int p1), .val (.ref b1), .val (.int (22 : Int32)), .val (.ref t22), .unset] [(.int (22 : Int32))])) _
      refine XS.bipush X169.here hx rfl (hb hby at_192) ?_
      show Steps p.tables e below (T162.setTop (mkF m 194 #[.val (.int p1), .val (.ref b1), .val (.int (22 : Int32)), .val (.ref t22), .unset] [(.int (18 : Int32)), (.int (22 : Int32))])) _
      refine XS.icmpYes X169.here hx rfl (pc0 := 194) (pc' := 201) rfl (hb hby at_194) rfl (feq (by decide)).2 (by decide) (by decide) ?_
      show Steps p.tables e below (T162.setTop (mkF m 201 #[.val (.int p1), .val (.ref b1), .val (.int (22 : Int32)), .val (.ref t22), .unset] [])) _
      refine XS.iconst X169.here hx rfl (hb hby at_201) ?_
      show Steps p.tables e below (T162.setTop (mkF m 202 #[.val (.int p1), .val (.ref b1), .val (.int (22 : Int32)), .val (.ref t22), .unset] [(.int (0 : Int32))])) _
      refine XS.istore X169.here hx rfl (hb hby at_202) rfl (l' := #[.val (.int p1), .val (.ref b1), .val (.int (22 : Int32)), .val (.ref t22), .val (.int (0 : Int32))]) rfl ?_
      show Steps p.tables e below (T162.setTop (mkF m 204 #[.val (.int p1), .val (.ref b1), .val (.int (22 : Int32)), .val (.ref t22), .val (.int (0 : Int32))] [])) _
      refine XS.aloadN X169.here hx rfl (hb hby at_204) rfl rfl ?_
      show Steps p.tables e below (T162.setTop (mkF m 205 #[.val (.int p1), .val (.ref b1), .val (.int (22 : Int32)), .val (.ref t22), .val (.int (0 : Int32))] [(.ref t22)])) _
      refine st237.trans ?_
      show Steps p.tables e below (T237.setTop (mkF m 208 #[.val (.int p1), .val (.ref b1), .val (.int (22 : Int32)), .val (.ref t22), .val (.int (0 : Int32))] [(.int (0 : Int32))])) _
      refine XS.iload X237.here hx rfl (hb hby at_208) rfl  ?_
      show Steps p.tables e below (T237.setTop (mkF m 210 #[.val (.int p1), .val (.ref b1), .val (.int (22 : Int32)), .val (.ref t22), .val (.int (0 : Int32))] [(.int (0 : Int32)), (.int (0 : Int32))])) _
      refine XS.icmpNo X237.here hx rfl (hb hby at_210) rfl (teq (by decide)).2 ?_
      show Steps p.tables e below (T237.setTop (mkF m 213 #[.val (.int p1), .val (.ref b1), .val (.int (22 : Int32)), .val (.ref t22), .val (.int (0 : Int32))] [])) _
      refine XS.iconst X237.here hx rfl (hb hby at_213) ?_
      show Steps p.tables e below (T237.setTop (mkF m 214 #[.val (.int p1), .val (.ref b1), .val (.int (22 : Int32)), .val (.ref t22), .val (.int (0 : Int32))] [(.int (1 : Int32))])) _
      refine XS.goto X237.here hx rfl (pc0 := 214) (pc' := 218) rfl (hb hby at_214) (by decide) (by decide) ?_
      show Steps p.tables e below (T237.setTop (mkF m 218 #[.val (.int p1), .val (.ref b1), .val (.int (22 : Int32)), .val (.ref t22), .val (.int (0 : Int32))] [(.int (1 : Int32))])) _
      exact retN X237 hx (t := .boolean) Bd.returns (by simp) (hb hby at_218) hrZ
    · show Q0 Z p1 t0 t1 t2 t3 t4 t5 t6 t7 t8 t9 t10 t11 t12 t13 t14 t15 t16 t17 t18 t19 t20 t21 t22 h0 n0 _ T237.heap _
      rw [e237]
      exact ⟨rfl, N237⟩
set_option maxRecDepth 65536 in
set_option maxHeartbeats 40000000 in
theorem comes_1 {Post : Tables → Env → Array Value → State → Outcome → State → Prop} (hpost : ∀ tb e args s v u, (limb_1_1.after args s (.returned v) u = true ∧ limb_1_2.after args s (.returned v) u = true ∧ True) → FrameEnd s (.returned v) u (Jvm.fieldLocs frame_1_writes args s ++ Jvm.arrayLocs frame_1_arrays args s ++ Jvm.staticLocs frame_1_statics s) 16 128 → Post tb e args s (.returned v) u) :
    ArmFor flags0 classFile x code maxLocals ret World_1 tables_1 room_1 Calls_1 rest_1 Pre_1 Post := by
  intro l hfl _ _ p e ha hc hk s m args below hf hA hF happ hP
  obtain ⟨hcalls, hrest, hpre⟩ := hP
  obtain ⟨-, -, -, hnamed, -, -, -, hat⟩ := (Spec.applies_iff hf).mp happ
  obtain ⟨hg, hn⟩ := and_e (Cond.before_iff.mp (show (Jvm.Cond.and given_1 narrow_1).before args s = true from hpre))
  obtain ⟨g1, g2⟩ := and_e hg
  obtain ⟨w0, rfl⟩ : ∃ w0 : Value, args = #[w0] := by
    have hs : args.size = 1 := by simpa [Cond.value, given_1] using g1
    obtain ⟨L⟩ := args
    match L, hs with
    | [w0], _ => exact ⟨w0, rfl⟩
  have hw := fun d (hd : d ∈ tables_1) => atoms_spec (ws := Jvm.Cond.code x code maxLocals ret :: tables_1) hat d (List.mem_cons_of_mem _ hd)
  have hfit : Fit s := fun {y c} hc i hi => by
    obtain ⟨ha, rfl⟩ := Array.getElem?_eq_some_iff.mp hc
    have q := List.all_eq_true.mp ((Array.all_eq_true_iff_forall_mem.mp hF) _ (Array.getElem_mem ha)) i (List.mem_range.mpr hi)
    simpa [Array.getElem?_eq_getElem hi] using q
  obtain ⟨i0, ei0⟩ := is_v g2
  obtain rfl : w0 = (.int i0) := Option.some.inj ei0
  obtain ⟨nn1, nn2⟩ := and_e hn
  obtain ⟨nn3, nn4⟩ := and_e nn2
  obtain ⟨nn5, nn6⟩ := and_e nn4
  obtain ⟨nn7, nn8⟩ := and_e nn6
  obtain ⟨nn9, nn10⟩ := and_e nn8
  obtain ⟨nn11, nn12⟩ := and_e nn10
  obtain ⟨nn13, nn14⟩ := and_e nn12
  obtain ⟨nn15, nn16⟩ := and_e nn14
  obtain ⟨nn17, nn18⟩ := and_e nn16
  obtain ⟨nn19, nn20⟩ := and_e nn18
  obtain ⟨nn21, nn22⟩ := and_e nn20
  obtain ⟨nn23, nn24⟩ := and_e nn22
  obtain ⟨nn25, nn26⟩ := and_e nn24
  obtain ⟨nn27, nn28⟩ := and_e nn26
  obtain ⟨nn29, nn30⟩ := and_e nn28
  obtain ⟨nn31, nn32⟩ := and_e nn30
  obtain ⟨nn33, nn34⟩ := and_e nn32
  obtain ⟨nn35, nn36⟩ := and_e nn34
  obtain ⟨nn37, nn38⟩ := and_e nn36
  obtain ⟨nn39, nn40⟩ := and_e nn38
  obtain ⟨nn41, nn42⟩ := and_e nn40
  obtain ⟨nn43, nn44⟩ := and_e nn42
  obtain ⟨nn45, nn46⟩ := and_e nn44
  obtain ⟨nn47, nn48⟩ := and_e nn46
  obtain ⟨nn49, nn50⟩ := and_e nn48
  obtain ⟨nn51, nn52⟩ := and_e nn50
  obtain ⟨nn53, nn54⟩ := and_e nn52
  obtain ⟨nn55, nn56⟩ := and_e nn54
  obtain ⟨nn57, nn58⟩ := and_e nn56
  obtain ⟨nn59, nn60⟩ := and_e nn58
  obtain ⟨nn61, nn62⟩ := and_e nn60
  obtain ⟨nn63, nn64⟩ := and_e nn62
  obtain ⟨nn65, nn66⟩ := and_e nn64
  obtain ⟨nn67, nn68⟩ := and_e nn66
  obtain ⟨nn69, nn70⟩ := and_e nn68
  obtain ⟨nn71, nn72⟩ := and_e nn70
  obtain ⟨nn73, nn74⟩ := and_e nn72
  obtain ⟨nn75, nn76⟩ := and_e nn74
  obtain ⟨nn77, nn78⟩ := and_e nn76
  obtain ⟨nn79, nn80⟩ := and_e nn78
  obtain ⟨nn81, nn82⟩ := and_e nn80
  obtain ⟨nn83, nn84⟩ := and_e nn82
  obtain ⟨nn85, nn86⟩ := and_e nn84
  obtain ⟨nn87, nn88⟩ := and_e nn86
  obtain ⟨nn89, nn90⟩ := and_e nn88
  obtain ⟨t0, et0⟩ := exa_v nn1
  have S0 := Sta.start et0 (Or.inr ⟨(ow hw 3 rfl), (ow hw 4 rfl)⟩)
  have E0 := Exa.start et0 nn1
  obtain ⟨t1, et1⟩ := exa_v nn3
  have S1 := Sta.start et1 (Or.inr ⟨(ow hw 3 rfl), (ow hw 7 rfl)⟩)
  have E1 := Exa.start et1 nn3
  obtain ⟨t2, et2⟩ := exa_v nn5
  have S2 := Sta.start et2 (Or.inr ⟨(ow hw 3 rfl), (ow hw 9 rfl)⟩)
  have E2 := Exa.start et2 nn5
  obtain ⟨t3, et3⟩ := exa_v nn7
  have S3 := Sta.start et3 (Or.inr ⟨(ow hw 3 rfl), (ow hw 11 rfl)⟩)
  have E3 := Exa.start et3 nn7
  obtain ⟨t4, et4⟩ := exa_v nn9
  have S4 := Sta.start et4 (Or.inr ⟨(ow hw 3 rfl), (ow hw 13 rfl)⟩)
  have E4 := Exa.start et4 nn9
  obtain ⟨t5, et5⟩ := exa_v nn11
  have S5 := Sta.start et5 (Or.inr ⟨(ow hw 3 rfl), (ow hw 15 rfl)⟩)
  have E5 := Exa.start et5 nn11
  obtain ⟨t6, et6⟩ := exa_v nn13
  have S6 := Sta.start et6 (Or.inr ⟨(ow hw 3 rfl), (ow hw 17 rfl)⟩)
  have E6 := Exa.start et6 nn13
  obtain ⟨t7, et7⟩ := exa_v nn15
  have S7 := Sta.start et7 (Or.inr ⟨(ow hw 3 rfl), (ow hw 19 rfl)⟩)
  have E7 := Exa.start et7 nn15
  obtain ⟨t8, et8⟩ := exa_v nn17
  have S8 := Sta.start et8 (Or.inr ⟨(ow hw 3 rfl), (ow hw 21 rfl)⟩)
  have E8 := Exa.start et8 nn17
  obtain ⟨t9, et9⟩ := exa_v nn19
  have S9 := Sta.start et9 (Or.inr ⟨(ow hw 3 rfl), (ow hw 23 rfl)⟩)
  have E9 := Exa.start et9 nn19
  obtain ⟨t10, et10⟩ := exa_v nn21
  have S10 := Sta.start et10 (Or.inr ⟨(ow hw 3 rfl), (ow hw 25 rfl)⟩)
  have E10 := Exa.start et10 nn21
  obtain ⟨t11, et11⟩ := exa_v nn23
  have S11 := Sta.start et11 (Or.inr ⟨(ow hw 3 rfl), (ow hw 27 rfl)⟩)
  have E11 := Exa.start et11 nn23
  obtain ⟨t12, et12⟩ := exa_v nn25
  have S12 := Sta.start et12 (Or.inr ⟨(ow hw 3 rfl), (ow hw 29 rfl)⟩)
  have E12 := Exa.start et12 nn25
  obtain ⟨t13, et13⟩ := exa_v nn27
  have S13 := Sta.start et13 (Or.inr ⟨(ow hw 3 rfl), (ow hw 31 rfl)⟩)
  have E13 := Exa.start et13 nn27
  obtain ⟨t14, et14⟩ := exa_v nn29
  have S14 := Sta.start et14 (Or.inr ⟨(ow hw 3 rfl), (ow hw 33 rfl)⟩)
  have E14 := Exa.start et14 nn29
  obtain ⟨t15, et15⟩ := exa_v nn31
  have S15 := Sta.start et15 (Or.inr ⟨(ow hw 3 rfl), (ow hw 35 rfl)⟩)
  have E15 := Exa.start et15 nn31
  obtain ⟨t16, et16⟩ := exa_v nn33
  have S16 := Sta.start et16 (Or.inr ⟨(ow hw 3 rfl), (ow hw 37 rfl)⟩)
  have E16 := Exa.start et16 nn33
  obtain ⟨t17, et17⟩ := exa_v nn35
  have S17 := Sta.start et17 (Or.inr ⟨(ow hw 3 rfl), (ow hw 39 rfl)⟩)
  have E17 := Exa.start et17 nn35
  obtain ⟨t18, et18⟩ := exa_v nn37
  have S18 := Sta.start et18 (Or.inr ⟨(ow hw 3 rfl), (ow hw 41 rfl)⟩)
  have E18 := Exa.start et18 nn37
  obtain ⟨t19, et19⟩ := exa_v nn39
  have S19 := Sta.start et19 (Or.inr ⟨(ow hw 3 rfl), (ow hw 43 rfl)⟩)
  have E19 := Exa.start et19 nn39
  obtain ⟨t20, et20⟩ := exa_v nn41
  have S20 := Sta.start et20 (Or.inr ⟨(ow hw 3 rfl), (ow hw 45 rfl)⟩)
  have E20 := Exa.start et20 nn41
  obtain ⟨t21, et21⟩ := exa_v nn43
  have S21 := Sta.start et21 (Or.inr ⟨(ow hw 3 rfl), (ow hw 47 rfl)⟩)
  have E21 := Exa.start et21 nn43
  obtain ⟨t22, et22⟩ := exa_v nn45
  have S22 := Sta.start et22 (Or.inr ⟨(ow hw 3 rfl), (ow hw 49 rfl)⟩)
  have E22 := Exa.start et22 nn45
  have o0 := own_eqI nn47
  rw [fld_at et0] at o0
  have o17 := own_eqI nn49
  rw [fld_at et17] at o17
  have o18 := own_eqI nn51
  rw [fld_at et18] at o18
  have o13 := own_eqI nn53
  rw [fld_at et13] at o13
  have o14 := own_eqI nn55
  rw [fld_at et14] at o14
  have o3 := own_eqI nn57
  rw [fld_at et3] at o3
  have o11 := own_eqI nn59
  rw [fld_at et11] at o11
  have o12 := own_eqI nn61
  rw [fld_at et12] at o12
  have o5 := own_eqI nn63
  rw [fld_at et5] at o5
  have o7 := own_eqI nn65
  rw [fld_at et7] at o7
  have o2 := own_eqI nn67
  rw [fld_at et2] at o2
  have o4 := own_eqI nn69
  rw [fld_at et4] at o4
  have o8 := own_eqI nn71
  rw [fld_at et8] at o8
  have o1 := own_eqI nn73
  rw [fld_at et1] at o1
  have o21 := own_eqI nn75
  rw [fld_at et21] at o21
  have o16 := own_eqI nn77
  rw [fld_at et16] at o16
  have o10 := own_eqI nn79
  rw [fld_at et10] at o10
  have o9 := own_eqI nn81
  rw [fld_at et9] at o9
  have o22 := own_eqI nn83
  rw [fld_at et22] at o22
  have o19 := own_eqI nn85
  rw [fld_at et19] at o19
  have o15 := own_eqI nn87
  rw [fld_at et15] at o15
  have o20 := own_eqI nn89
  rw [fld_at et20] at o20
  have o6 := own_eqI nn90
  rw [fld_at et6] at o6
  obtain ⟨n, o, h1, h2, h3, _, L, rfl, ⟨rfl, N⟩, hq⟩ := rm0 l s _ hw tables_1 i0 t0 t1 t2 t3 t4 t5 t6 t7 t8 t9 t10 t11 t12 t13 t14 t15 t16 t17 t18 t19 t20 t21 t22 s.heap s.heap.size (Nat.le_refl _) S0 S1 S2 S3 S4 S5 S6 S7 S8 S9 S10 S11 S12 S13 S14 S15 S16 S17 S18 S19 S20 S21 S22 E0 E1 E2 E3 E4 E5 E6 E7 E8 E9 E10 E11 E12 E13 E14 E15 E16 E17 E18 E19 E20 E21 E22 (own_ne o0 o13 (by decide)) (own_ne o0 o14 (by decide)) (own_ne o0 o17 (by decide)) (own_ne o0 o18 (by decide)) (own_ne o1 o13 (by decide)) (own_ne o1 o14 (by decide)) (own_ne o1 o17 (by decide)) (own_ne o1 o18 (by decide)) (own_ne o2 o13 (by decide)) (own_ne o2 o14 (by decide)) (own_ne o2 o17 (by decide)) (own_ne o2 o18 (by decide)) (own_ne o3 o13 (by decide)) (own_ne o3 o14 (by decide)) (own_ne o3 o17 (by decide)) (own_ne o3 o18 (by decide)) (own_ne o4 o13 (by decide)) (own_ne o4 o14 (by decide)) (own_ne o4 o17 (by decide)) (own_ne o4 o18 (by decide)) (own_ne o5 o13 (by decide)) (own_ne o5 o14 (by decide)) (own_ne o5 o17 (by decide)) (own_ne o5 o18 (by decide)) (own_ne o6 o13 (by decide)) (own_ne o6 o14 (by decide)) (own_ne o6 o17 (by decide)) (own_ne o6 o18 (by decide)) (own_ne o7 o13 (by decide)) (own_ne o7 o14 (by decide)) (own_ne o7 o17 (by decide)) (own_ne o7 o18 (by decide)) (own_ne o8 o13 (by decide)) (own_ne o8 o14 (by decide)) (own_ne o8 o17 (by decide)) (own_ne o8 o18 (by decide)) (own_ne o9 o13 (by decide)) (own_ne o9 o14 (by decide)) (own_ne o9 o17 (by decide)) (own_ne o9 o18 (by decide)) (own_ne o10 o13 (by decide)) (own_ne o10 o14 (by decide)) (own_ne o10 o17 (by decide)) (own_ne o10 o18 (by decide)) (own_ne o11 o13 (by decide)) (own_ne o11 o14 (by decide)) (own_ne o11 o17 (by decide)) (own_ne o11 o18 (by decide)) (own_ne o12 o13 (by decide)) (own_ne o12 o14 (by decide)) (own_ne o12 o17 (by decide)) (own_ne o12 o18 (by decide)) (own_ne o13 o14 (by decide)) (own_ne o13 o17 (by decide)) (own_ne o13 o18 (by decide)) (own_ne o14 o13 (by decide)) (own_ne o14 o17 (by decide)) (own_ne o14 o18 (by decide)) (own_ne o15 o13 (by decide)) (own_ne o15 o14 (by decide)) (own_ne o15 o17 (by decide)) (own_ne o15 o18 (by decide)) (own_ne o16 o13 (by decide)) (own_ne o16 o14 (by decide)) (own_ne o16 o17 (by decide)) (own_ne o16 o18 (by decide)) (own_ne o17 o13 (by decide)) (own_ne o17 o14 (by decide)) (own_ne o17 o18 (by decide)) (own_ne o18 o13 (by decide)) (own_ne o18 o14 (by decide)) (own_ne o18 o17 (by decide)) (own_ne o19 o13 (by decide)) (own_ne o19 o14 (by decide)) (own_ne o19 o17 (by decide)) (own_ne o19 o18 (by decide)) (own_ne o20 o13 (by decide)) (own_ne o20 o14 (by decide)) (own_ne o20 o17 (by decide)) (own_ne o20 o18 (by decide)) (own_ne o21 o13 (by decide)) (own_ne o21 o14 (by decide)) (own_ne o21 o17 (by decide)) (own_ne o21 o18 (by decide)) (own_ne o22 o13 (by decide)) (own_ne o22 o14 (by decide)) (own_ne o22 o17 (by decide)) (own_ne o22 o18 (by decide)) p e ha hc hk s m _ below hf ((Spec.applies_iff_loose hf).mp happ).1 ⟨rfl, State.Warmed39.refl s, rfl⟩ trivial
  refine ⟨n, _, h1, h2, h3, hpost _ _ _ _ _ _ ⟨Cond.after_iff.mpr rfl, Cond.after_iff.mpr (eq_i res_at (Term.int_eval (1)) rfl), trivial⟩ ⟨hq.1, hq.2.1, (hq.2.2.sift fun y hy => Or.inr (N y hy)).mono (by decide) (by decide)⟩⟩
theorem main_1_1 : Claimed_1_1 := comes_1 fun _ _ _ _ _ _ h hF => ⟨h.1, hF⟩
theorem main_1_2 : Claimed_1_2 := comes_1 fun _ _ _ _ _ _ h hF => ⟨h.2.1, hF⟩
end Jvm.Pilot.@@N@@
namespace Jvm.Pilot.@@N@@
open Jvm Jvm.ClassFile Sem Op Lib Jvm.Free Jvm.Stand Jvm.Pilot.@@N@@.Jvm.D
/-! MADE BY PROGRAM (witnessworld.py) out of the Statement's table words and the real class files: 13 classes; the members and pool entries that the words name. The judged class is class 1, her method 1. -/
namespace start1
open Jvm.ClassFile
def u (s : String) : CpInfo := .utf8 (stringToUtf16 s)
/-- a pool by its gaps: so many unusable entries, then the entry; so many at the end -/
def gap : Nat → List CpInfo → List CpInfo
  | 0, r => r
  | n + 1, r => .unusable :: gap n r
def poolList (es : List (Nat × CpInfo)) (last : Nat) : List CpInfo := es.foldr (fun e r => gap e.1 (e.2 :: r)) (gap last [])
def pool (es : List (Nat × CpInfo)) (last : Nat) : Array CpInfo := ⟨poolList es last⟩
def fileOf (pool : Array CpInfo) (this : Nat) (attrs : Array Attribute := #[]) (ms : Array MethodInfo := #[]) (fl : Nat := 33) (sup : Nat := 0) (ifs : Array Nat := #[]) (fds : Array FieldInfo := #[]) : ClassFile where
  minorVersion := 0
  majorVersion := 65
  constantPool := pool
  accessFlags := fl
  thisClass := this
  superClass := sup
  interfaces := ifs
  fields := fds
  methods := ms
  attributes := attrs
def plain (name : String) (sup : Option ClassId) : Class where
  name := name
  kind := .ordinary
  loader := none
  accessFlags := 33
  super := sup
  interfaces := #[]
  cf := none
  fields := #[]
  methods := #[]
  instanceTypes := #[]
  staticTypes := #[]
  resolved := #[]
  callSites := []
  init := .initialized
  statics := none
  mirror := none

def pool0 : Array CpInfo := pool [(5, u "<init>"), (0, u "()V"), (1, .class_ 10), (1, u "java/lang/Object")] 113

def k0m0 : Method := { name := "<init>", desc := "()V", sig := { parameters := [], returnType := none }, accessFlags := 1, code := none }
/-- java/lang/Object -/
def k0 : Class := { plain "java/lang/Object" none with
  accessFlags := 33
  interfaces := #[]
  cf := some (fileOf pool0 8 #[] #[{ accessFlags := 1, nameIndex := 5, descriptorIndex := 6, attributes := #[] }] 33 0 #[] #[])
  fields := #[]
  methods := #[k0m0]
  instanceTypes := #[]
  staticTypes := #[]
  resolved := Array.replicate 124 none
  statics := none }

def pool1 : Array CpInfo := pool [(2, .class_ 4), (1, u "java/lang/Object"), (0, u "<init>"), (0, u "()V"), (0, .class_ 8), (0, u "com/example/hewgen/hewgen/model/ShapeType"), (0, .fieldref 7 10), (0, .nameAndType 11 12), (0, u "BLOB"), (0, u "Lcom/example/hewgen/hewgen/model/ShapeType;"), (0, .fieldref 7 14), (0, .nameAndType 15 12), (0, u "BOOLEAN"), (0, .fieldref 7 17), (0, .nameAndType 18 12), (0, u "STRING"), (0, .fieldref 7 20), (0, .nameAndType 21 12), (0, u "BYTE"), (0, .fieldref 7 23), (0, .nameAndType 24 12), (0, u "SHORT"), (0, .fieldref 7 26), (0, .nameAndType 27 12), (0, u "INTEGER"), (0, .fieldref 7 29), (0, .nameAndType 30 12), (0, u "LONG"), (0, .fieldref 7 32), (0, .nameAndType 33 12), (0, u "FLOAT"), (0, .fieldref 7 35), (0, .nameAndType 36 12), (0, u "DOUBLE"), (0, .fieldref 7 38), (0, .nameAndType 39 12), (0, u "BIG_INTEGER"), (0, .fieldref 7 41), (0, .nameAndType 42 12), (0, u "BIG_DECIMAL"), (0, .fieldref 7 44), (0, .nameAndType 45 12), (0, u "TIMESTAMP"), (0, .fieldref 7 47), (0, .nameAndType 48 12), (0, u "DOCUMENT"), (0, .fieldref 7 50), (0, .nameAndType 51 12), (0, u "ENUM"), (0, .fieldref 7 53), (0, .nameAndType 54 12), (0, u "INT_ENUM"), (0, .fieldref 7 56), (0, .nameAndType 57 12), (0, u "LIST"), (0, .fieldref 7 59), (0, .nameAndType 60 12), (0, u "MAP"), (0, .fieldref 7 62), (0, .nameAndType 63 12), (0, u "STRUCTURE"), (0, .fieldref 7 65), (0, .nameAndType 66 12), (0, u "UNION"), (0, .fieldref 7 68), (0, .nameAndType 69 12), (0, u "SERVICE"), (0, .fieldref 7 71), (0, .nameAndType 72 12), (0, u "OPERATION"), (0, .fieldref 7 74), (0, .nameAndType 75 12), (0, u "RESOURCE"), (0, .fieldref 7 77), (0, .nameAndType 78 12), (0, u "MEMBER"), (0, .integer 2147483647), (0, .methodref 7 81), (0, .nameAndType 82 83), (0, u "hasNamedMembers"), (0, u "()Z"), (0, .class_ 85), (0, u "com/example/hewgen/hewgen/model/ShapeTypeHasNamedMembersPinLaw"), (2, u "law"), (0, u "(I)Z")] 5

def k1m0 : Method := { name := "<init>", desc := "()V", sig := { parameters := [], returnType := none }, accessFlags := 1, code := none }
def k1c1 : Code := { maxStack := 4, maxLocals := 5, code := code, exceptionTable := #[], attributes := #[] }
def k1m1 : Method := { name := "law", desc := "(I)Z", sig := { parameters := [.int], returnType := some .boolean }, accessFlags := 9, code := some k1c1 }
/-- com/example/hewgen/hewgen/model/ShapeTypeHasNamedMembersPinLaw -/
def k1 : Class := { plain "com/example/hewgen/hewgen/model/ShapeTypeHasNamedMembersPinLaw" (some 0) with
  accessFlags := 49
  interfaces := #[]
  cf := some (fileOf pool1 84 #[] #[{ accessFlags := 1, nameIndex := 5, descriptorIndex := 6, attributes := #[] }, { accessFlags := 9, nameIndex := 88, descriptorIndex := 89, attributes := #[] }] 49 2 #[] #[])
  fields := #[]
  methods := #[k1m0, k1m1]
  instanceTypes := #[]
  staticTypes := #[]
  resolved := Array.replicate 95 none
  statics := none }

def pool2 : Array CpInfo := pool [(1, .class_ 2), (0, u "java/lang/constant/Constable"), (0, .class_ 4), (0, u "java/lang/Object")] 6

/-- java/lang/constant/Constable -/
def k2 : Class := { plain "java/lang/constant/Constable" (some 0) with
  accessFlags := 1537
  interfaces := #[]
  cf := some (fileOf pool2 1 #[] #[] 1537 3 #[] #[])
  fields := #[]
  methods := #[]
  instanceTypes := #[]
  staticTypes := #[]
  resolved := Array.replicate 11 none
  statics := none }

def pool3 : Array CpInfo := pool [(1, .class_ 2), (0, u "java/lang/Comparable"), (0, .class_ 4), (0, u "java/lang/Object")] 7

/-- java/lang/Comparable -/
def k3 : Class := { plain "java/lang/Comparable" (some 0) with
  accessFlags := 1537
  interfaces := #[]
  cf := some (fileOf pool3 1 #[] #[] 1537 3 #[] #[])
  fields := #[]
  methods := #[]
  instanceTypes := #[]
  staticTypes := #[]
  resolved := Array.replicate 12 none
  statics := none }

def pool4 : Array CpInfo := pool [(1, .class_ 2), (0, u "java/io/Serializable"), (0, .class_ 4), (0, u "java/lang/Object")] 2

/-- java/io/Serializable -/
def k4 : Class := { plain "java/io/Serializable" (some 0) with
  accessFlags := 1537
  interfaces := #[]
  cf := some (fileOf pool4 1 #[] #[] 1537 3 #[] #[])
  fields := #[]
  methods := #[]
  instanceTypes := #[]
  staticTypes := #[]
  resolved := Array.replicate 7 none
  statics := none }

def pool5 : Array CpInfo := pool [(2, .class_ 4), (1, u "java/lang/Enum"), (0, u "name"), (0, u "Ljava/lang/String;"), (2, u "ordinal"), (0, u "I"), (1, .class_ 14), (1, u "java/lang/Object"), (4, u "hash"), (86, .class_ 108), (1, u "java/lang/Enum$EnumDesc"), (2, .class_ 112), (0, u "java/lang/constant/Constable"), (0, .class_ 114), (0, u "java/lang/Comparable"), (0, .class_ 116), (0, u "java/io/Serializable")] 87

/-- java/lang/Enum -/
def k5 : Class := { plain "java/lang/Enum" (some 0) with
  accessFlags := 1057
  interfaces := #[2, 3, 4]
  cf := some (fileOf pool5 2 #[.nestMembers #[106]] #[] 1057 12 #[111, 113, 115] #[{ accessFlags := 18, nameIndex := 5, descriptorIndex := 6, attributes := #[] }, { accessFlags := 18, nameIndex := 9, descriptorIndex := 10, attributes := #[] }, { accessFlags := 2, nameIndex := 19, descriptorIndex := 10, attributes := #[] }])
  fields := #[{ name := "name", type := (.object "java/lang/String"), accessFlags := 18, slot := 0, constantValue := 0 }, { name := "ordinal", type := .int, accessFlags := 18, slot := 1, constantValue := 0 }, { name := "hash", type := .int, accessFlags := 2, slot := 2, constantValue := 0 }]
  methods := #[]
  instanceTypes := #[(.object "java/lang/String"), .int, .int]
  staticTypes := #[]
  resolved := Array.replicate 204 none
  statics := none }

def pool6 : Array CpInfo := pool [(1, .class_ 2), (0, u "com/example/hewgen/hewgen/model/ShapeType"), (2, u "BLOB"), (0, u "Lcom/example/hewgen/hewgen/model/ShapeType;"), (2, u "BOOLEAN"), (2, u "STRING"), (2, u "BYTE"), (2, u "SHORT"), (2, u "INTEGER"), (2, u "LONG"), (2, u "FLOAT"), (2, u "DOUBLE"), (2, u "BIG_INTEGER"), (2, u "BIG_DECIMAL"), (2, u "TIMESTAMP"), (2, u "DOCUMENT"), (0, .fieldref 1 44), (0, .nameAndType 45 6), (0, u "ENUM"), (0, .fieldref 1 47), (0, .nameAndType 48 6), (0, u "INT_ENUM"), (2, u "LIST"), (2, u "MAP"), (0, .fieldref 1 56), (0, .nameAndType 57 6), (0, u "STRUCTURE"), (0, .fieldref 1 59), (0, .nameAndType 60 6), (0, u "UNION"), (2, u "SERVICE"), (2, u "OPERATION"), (2, u "RESOURCE"), (2, u "MEMBER"), (2, u "$VALUES"), (0, u "[Lcom/example/hewgen/hewgen/model/ShapeType;"), (6, .class_ 85), (1, u "java/lang/Enum"), (8, u "modelName"), (0, u "Ljava/lang/String;"), (2, u "simple"), (0, u "Z"), (135, u "()Z"), (0, u "hasNamedMembers")] 32

def k6c0 : Code := { maxStack := 2, maxLocals := 1, code := prog_37_method_6_code, exceptionTable := #[], attributes := #[] }
def k6m0 : Method := { name := "hasNamedMembers", desc := "()Z", sig := { parameters := [], returnType := some .boolean }, accessFlags := 0, code := some k6c0 }
/-- com/example/hewgen/hewgen/model/ShapeType -/
def k6 : Class := { plain "com/example/hewgen/hewgen/model/ShapeType" (some 5) with
  accessFlags := 16433
  interfaces := #[]
  cf := some (fileOf pool6 1 #[] #[{ accessFlags := 0, nameIndex := 236, descriptorIndex := 235, attributes := #[] }] 16433 83 #[] #[{ accessFlags := 16409, nameIndex := 5, descriptorIndex := 6, attributes := #[] }, { accessFlags := 16409, nameIndex := 9, descriptorIndex := 6, attributes := #[] }, { accessFlags := 16409, nameIndex := 12, descriptorIndex := 6, attributes := #[] }, { accessFlags := 16409, nameIndex := 15, descriptorIndex := 6, attributes := #[] }, { accessFlags := 16409, nameIndex := 18, descriptorIndex := 6, attributes := #[] }, { accessFlags := 16409, nameIndex := 21, descriptorIndex := 6, attributes := #[] }, { accessFlags := 16409, nameIndex := 24, descriptorIndex := 6, attributes := #[] }, { accessFlags := 16409, nameIndex := 27, descriptorIndex := 6, attributes := #[] }, { accessFlags := 16409, nameIndex := 30, descriptorIndex := 6, attributes := #[] }, { accessFlags := 16409, nameIndex := 33, descriptorIndex := 6, attributes := #[] }, { accessFlags := 16409, nameIndex := 36, descriptorIndex := 6, attributes := #[] }, { accessFlags := 16409, nameIndex := 39, descriptorIndex := 6, attributes := #[] }, { accessFlags := 16409, nameIndex := 42, descriptorIndex := 6, attributes := #[] }, { accessFlags := 16409, nameIndex := 45, descriptorIndex := 6, attributes := #[] }, { accessFlags := 16409, nameIndex := 48, descriptorIndex := 6, attributes := #[] }, { accessFlags := 16409, nameIndex := 51, descriptorIndex := 6, attributes := #[] }, { accessFlags := 16409, nameIndex := 54, descriptorIndex := 6, attributes := #[] }, { accessFlags := 16409, nameIndex := 57, descriptorIndex := 6, attributes := #[] }, { accessFlags := 16409, nameIndex := 60, descriptorIndex := 6, attributes := #[] }, { accessFlags := 16409, nameIndex := 63, descriptorIndex := 6, attributes := #[] }, { accessFlags := 16409, nameIndex := 66, descriptorIndex := 6, attributes := #[] }, { accessFlags := 16409, nameIndex := 69, descriptorIndex := 6, attributes := #[] }, { accessFlags := 16409, nameIndex := 72, descriptorIndex := 6, attributes := #[] }, { accessFlags := 18, nameIndex := 94, descriptorIndex := 95, attributes := #[] }, { accessFlags := 18, nameIndex := 98, descriptorIndex := 99, attributes := #[] }, { accessFlags := 4122, nameIndex := 75, descriptorIndex := 76, attributes := #[] }])
  fields := #[{ name := "BLOB", type := (.object "com/example/hewgen/hewgen/model/ShapeType"), accessFlags := 16409, slot := 0, constantValue := 0 }, { name := "BOOLEAN", type := (.object "com/example/hewgen/hewgen/model/ShapeType"), accessFlags := 16409, slot := 1, constantValue := 0 }, { name := "STRING", type := (.object "com/example/hewgen/hewgen/model/ShapeType"), accessFlags := 16409, slot := 2, constantValue := 0 }, { name := "BYTE", type := (.object "com/example/hewgen/hewgen/model/ShapeType"), accessFlags := 16409, slot := 3, constantValue := 0 }, { name := "SHORT", type := (.object "com/example/hewgen/hewgen/model/ShapeType"), accessFlags := 16409, slot := 4, constantValue := 0 }, { name := "INTEGER", type := (.object "com/example/hewgen/hewgen/model/ShapeType"), accessFlags := 16409, slot := 5, constantValue := 0 }, { name := "LONG", type := (.object "com/example/hewgen/hewgen/model/ShapeType"), accessFlags := 16409, slot := 6, constantValue := 0 }, { name := "FLOAT", type := (.object "com/example/hewgen/hewgen/model/ShapeType"), accessFlags := 16409, slot := 7, constantValue := 0 }, { name := "DOUBLE", type := (.object "com/example/hewgen/hewgen/model/ShapeType"), accessFlags := 16409, slot := 8, constantValue := 0 }, { name := "BIG_INTEGER", type := (.object "com/example/hewgen/hewgen/model/ShapeType"), accessFlags := 16409, slot := 9, constantValue := 0 }, { name := "BIG_DECIMAL", type := (.object "com/example/hewgen/hewgen/model/ShapeType"), accessFlags := 16409, slot := 10, constantValue := 0 }, { name := "TIMESTAMP", type := (.object "com/example/hewgen/hewgen/model/ShapeType"), accessFlags := 16409, slot := 11, constantValue := 0 }, { name := "DOCUMENT", type := (.object "com/example/hewgen/hewgen/model/ShapeType"), accessFlags := 16409, slot := 12, constantValue := 0 }, { name := "ENUM", type := (.object "com/example/hewgen/hewgen/model/ShapeType"), accessFlags := 16409, slot := 13, constantValue := 0 }, { name := "INT_ENUM", type := (.object "com/example/hewgen/hewgen/model/ShapeType"), accessFlags := 16409, slot := 14, constantValue := 0 }, { name := "LIST", type := (.object "com/example/hewgen/hewgen/model/ShapeType"), accessFlags := 16409, slot := 15, constantValue := 0 }, { name := "MAP", type := (.object "com/example/hewgen/hewgen/model/ShapeType"), accessFlags := 16409, slot := 16, constantValue := 0 }, { name := "STRUCTURE", type := (.object "com/example/hewgen/hewgen/model/ShapeType"), accessFlags := 16409, slot := 17, constantValue := 0 }, { name := "UNION", type := (.object "com/example/hewgen/hewgen/model/ShapeType"), accessFlags := 16409, slot := 18, constantValue := 0 }, { name := "SERVICE", type := (.object "com/example/hewgen/hewgen/model/ShapeType"), accessFlags := 16409, slot := 19, constantValue := 0 }, { name := "OPERATION", type := (.object "com/example/hewgen/hewgen/model/ShapeType"), accessFlags := 16409, slot := 20, constantValue := 0 }, { name := "RESOURCE", type := (.object "com/example/hewgen/hewgen/model/ShapeType"), accessFlags := 16409, slot := 21, constantValue := 0 }, { name := "MEMBER", type := (.object "com/example/hewgen/hewgen/model/ShapeType"), accessFlags := 16409, slot := 22, constantValue := 0 }, { name := "modelName", type := (.object "java/lang/String"), accessFlags := 18, slot := 3, constantValue := 0 }, { name := "simple", type := .boolean, accessFlags := 18, slot := 4, constantValue := 0 }, { name := "$VALUES", type := (.array (.object "com/example/hewgen/hewgen/model/ShapeType")), accessFlags := 4122, slot := 23, constantValue := 0 }]
  methods := #[k6m0]
  instanceTypes := #[(.object "java/lang/String"), .int, .int, (.object "java/lang/String"), .boolean]
  staticTypes := #[(.object "com/example/hewgen/hewgen/model/ShapeType"), (.object "com/example/hewgen/hewgen/model/ShapeType"), (.object "com/example/hewgen/hewgen/model/ShapeType"), (.object "com/example/hewgen/hewgen/model/ShapeType"), (.object "com/example/hewgen/hewgen/model/ShapeType"), (.object "com/example/hewgen/hewgen/model/ShapeType"), (.object "com/example/hewgen/hewgen/model/ShapeType"), (.object "com/example/hewgen/hewgen/model/ShapeType"), (.object "com/example/hewgen/hewgen/model/ShapeType"), (.object "com/example/hewgen/hewgen/model/ShapeType"), (.object "com/example/hewgen/hewgen/model/ShapeType"), (.object "com/example/hewgen/hewgen/model/ShapeType"), (.object "com/example/hewgen/hewgen/model/ShapeType"), (.object "com/example/hewgen/hewgen/model/ShapeType"), (.object "com/example/hewgen/hewgen/model/ShapeType"), (.object "com/example/hewgen/hewgen/model/ShapeType"), (.object "com/example/hewgen/hewgen/model/ShapeType"), (.object "com/example/hewgen/hewgen/model/ShapeType"), (.object "com/example/hewgen/hewgen/model/ShapeType"), (.object "com/example/hewgen/hewgen/model/ShapeType"), (.object "com/example/hewgen/hewgen/model/ShapeType"), (.object "com/example/hewgen/hewgen/model/ShapeType"), (.object "com/example/hewgen/hewgen/model/ShapeType"), (.array (.object "com/example/hewgen/hewgen/model/ShapeType"))]
  resolved := Array.replicate 269 none
  statics := some 0 }

def pool7 : Array CpInfo := pool [(1, u "java/lang/Cloneable"), (0, .class_ 1), (0, u "java/lang/Object"), (0, .class_ 3)] 3

/-- java/lang/Cloneable -/
def k7 : Class := { plain "java/lang/Cloneable" (some 0) with
  accessFlags := 1537
  interfaces := #[]
  cf := some (fileOf pool7 2 #[] #[] 1537 4 #[] #[])
  fields := #[]
  methods := #[]
  instanceTypes := #[]
  staticTypes := #[]
  resolved := Array.replicate 8 none
  statics := none }

/-- the primitive byte -/
def k8 : Class := { plain "byte" none with kind := .primitive 'B', accessFlags := 0x411 }
/-- [B -/
def k9 : Class := { plain "[B" (some 0) with kind := .array 8 .byte, interfaces := #[7, 4], accessFlags := 1041 }

/-- the primitive int -/
def k10 : Class := { plain "int" none with kind := .primitive 'I', accessFlags := 0x411 }
/-- [I -/
def k11 : Class := { plain "[I" (some 0) with kind := .array 10 .int, interfaces := #[7, 4], accessFlags := 1041 }

/-- [Lcom/example/hewgen/hewgen/model/ShapeType; -/
def k12 : Class := { plain "[Lcom/example/hewgen/hewgen/model/ShapeType;" (some 0) with kind := .array 6 (.object "com/example/hewgen/hewgen/model/ShapeType"), interfaces := #[7, 4], accessFlags := 1041 }

def heap : Heap := #[{ cls := 6, slots := #[.ref 1, .ref 2, .ref 3, .ref 4, .ref 5, .ref 6, .ref 7, .ref 8, .ref 9, .ref 10, .ref 11, .ref 12, .ref 13, .ref 14, .ref 15, .ref 16, .ref 17, .ref 18, .ref 19, .ref 20, .ref 21, .ref 22, .ref 23, .null], vm := .statics 6 },
  { cls := 6, slots := #[.null, .int 0, .int 0, .null, .int 0], vm := .none },
  { cls := 6, slots := #[.null, .int 1, .int 0, .null, .int 0], vm := .none },
  { cls := 6, slots := #[.null, .int 2, .int 0, .null, .int 0], vm := .none },
  { cls := 6, slots := #[.null, .int 3, .int 0, .null, .int 0], vm := .none },
  { cls := 6, slots := #[.null, .int 4, .int 0, .null, .int 0], vm := .none },
  { cls := 6, slots := #[.null, .int 5, .int 0, .null, .int 0], vm := .none },
  { cls := 6, slots := #[.null, .int 6, .int 0, .null, .int 0], vm := .none },
  { cls := 6, slots := #[.null, .int 7, .int 0, .null, .int 0], vm := .none },
  { cls := 6, slots := #[.null, .int 8, .int 0, .null, .int 0], vm := .none },
  { cls := 6, slots := #[.null, .int 9, .int 0, .null, .int 0], vm := .none },
  { cls := 6, slots := #[.null, .int 10, .int 0, .null, .int 0], vm := .none },
  { cls := 6, slots := #[.null, .int 11, .int 0, .null, .int 0], vm := .none },
  { cls := 6, slots := #[.null, .int 12, .int 0, .null, .int 0], vm := .none },
  { cls := 6, slots := #[.null, .int 13, .int 0, .null, .int 0], vm := .none },
  { cls := 6, slots := #[.null, .int 14, .int 0, .null, .int 0], vm := .none },
  { cls := 6, slots := #[.null, .int 15, .int 0, .null, .int 0], vm := .none },
  { cls := 6, slots := #[.null, .int 16, .int 0, .null, .int 0], vm := .none },
  { cls := 6, slots := #[.null, .int 17, .int 0, .null, .int 0], vm := .none },
  { cls := 6, slots := #[.null, .int 18, .int 0, .null, .int 0], vm := .none },
  { cls := 6, slots := #[.null, .int 19, .int 0, .null, .int 0], vm := .none },
  { cls := 6, slots := #[.null, .int 20, .int 0, .null, .int 0], vm := .none },
  { cls := 6, slots := #[.null, .int 21, .int 0, .null, .int 0], vm := .none },
  { cls := 6, slots := #[.null, .int 22, .int 0, .null, .int 0], vm := .none }]
def classes : Array Class := #[k0, k1, k2, k3, k4, k5, k6, k7, k8, k9, k10, k11, k12]
def interned : List (Array UInt16 × Addr) := []
def slotsUsed : Nat := 139
def theMethod : MethodId := ⟨1, 1⟩
def args0 : Array Value := #[.int 5]
def aboutOver (below : List Frame) : State where
  vm := { classes := classes, interned := interned.toArray }
  heap := heap
  slotsUsed := slotsUsed
  threads := #[{ frames := .invoking theMethod args0 :: below }]
def below0 : List Frame := [.native { method := ⟨0, 0⟩, args := #[] }]
def about1 : State := aboutOver below0
def p0 : Program := .bare "" "" ""
def e0 : Env := launch0.env 0 0 0
theorem w_frames : about1.frames = Frame.invoking theMethod args0 :: below0 := rfl
set_option maxRecDepth 65536 in
theorem w_args : argsFit about1.vm theMethod args0 = true := by decide +kernel
set_option maxRecDepth 65536 in
theorem w_heap : heapFits about1 = true := by decide +kernel
set_option maxRecDepth 65536 in
theorem w_runnable : about1.curStatus? = some .runnable := by decide +kernel
set_option maxRecDepth 65536 in
theorem w_alone : about1.alone = true := by decide +kernel
set_option maxRecDepth 65536 in
theorem w_named : about1.methodNamed? x = some theMethod := by decide +kernel
set_option maxRecDepth 65536 in
theorem w_hears : about1.hears theMethod below0 = true := by decide +kernel
set_option maxRecDepth 65536 in
theorem w_ripe : about1.ripe theMethod args0 below0 = true := by decide +kernel
theorem w_running : about1.status = .running := rfl
set_option maxRecDepth 65536 in
theorem w_room : about1.hasRoom e0.platform room_1 = true :=
  launch0.hasRoom_least _ room_1 (by decide +kernel) (by decide +kernel) (by decide +kernel) (by decide +kernel) (by decide +kernel) (by decide +kernel)
theorem allAtoms_all (ts : List Jvm.Cond) (a : Array Jvm.Value) (st : Jvm.State) : (allAtoms ts).before a st = ts.all (fun c => c.before a st) := by
  induction ts with
  | nil => rfl
  | cons c t ih =>
    show (Jvm.Cond.and c (allAtoms t)).before a st = _
    rw [Jvm.Cond.before_and, ih, List.all_cons]
def words1 : List Jvm.Cond := Jvm.Cond.code x code maxLocals ret :: tables_1
/-- a 'code' word, met by the world's own term for the bytes: nothing is compared byte by byte -/
theorem code_word {y : MethodName} {bytes : ByteArray} {mx : Nat} {rt : Option FieldType} {a : Array Value} {s : State} {m : MethodId} {meth : Method} {c : Code} (h1 : s.methodNamed? y = some m) (h2 : s.vm.method? m = some meth) (h3 : meth.code = some c) (h4 : c.code = bytes)
    (h5 : (c.maxLocals == mx && c.exceptionTable.isEmpty && decide (c.maxStack ≤ mostOperands) && decide (meth.sig.returnType = rt) && !meth.locks && decide (parseMethodDescriptor y.desc = some meth.sig)) = true) : (Jvm.Cond.code y bytes mx rt).before a s = true := by
  simp only [Bool.and_eq_true, beq_iff_eq, Bool.not_eq_true', decide_eq_true_eq] at h5
  obtain ⟨⟨⟨⟨⟨g1, g2⟩, g3⟩, g4⟩, g5⟩, g6⟩ := h5
  simp [Cond.before, Cond.holds, Cond.value, h1, h2, h3, h4, g1, g2, g3, g4, g5, g6]
def isCode : Jvm.Cond → Bool
  | .code _ _ _ _ => true
  | _ => false
theorem all_split {L : List Jvm.Cond} {P : Jvm.Cond → Bool} (h1 : L.all (fun c => isCode c || P c) = true) (h2 : ∀ c ∈ L.filter isCode, P c = true) : L.all P = true := by
  refine List.all_eq_true.mpr fun c hc => ?_
  have h := List.all_eq_true.mp h1 c hc
  rcases Bool.eq_false_or_eq_true (isCode c) with hi | hi
  · exact h2 c (List.mem_filter.mpr ⟨hc, hi⟩)
  · simpa [hi] using h
set_option maxRecDepth 65536 in
theorem w_c0 : (Jvm.Cond.code x code maxLocals ret).before args0 about1 = true := code_word (m := ⟨1, 1⟩) (meth := k1m1) (c := k1c1) (by decide +kernel) rfl rfl rfl (by decide +kernel)
set_option maxRecDepth 65536 in
theorem w_c1 : (Jvm.Cond.code ({ cls := "com/example/hewgen/hewgen/model/ShapeType", name := "hasNamedMembers", desc := "()Z" } : Jvm.MethodName) prog_37_method_6_code (1 : Nat) (Option.some Jvm.ClassFile.FieldType.boolean)).before args0 about1 = true := code_word (m := ⟨6, 0⟩) (meth := k6m0) (c := k6c0) (by decide +kernel) rfl rfl rfl (by decide +kernel)
def codes1 : List Jvm.Cond := [Jvm.Cond.code x code maxLocals ret, Jvm.Cond.code ({ cls := "com/example/hewgen/hewgen/model/ShapeType", name := "hasNamedMembers", desc := "()Z" } : Jvm.MethodName) prog_37_method_6_code (1 : Nat) (Option.some Jvm.ClassFile.FieldType.boolean)]
set_option maxRecDepth 65536 in
theorem codes_eq : words1.filter isCode = codes1 := rfl
theorem w_codes : ∀ c ∈ words1.filter isCode, c.before args0 about1 = true := by
  rw [codes_eq]
  intro c hc
  simp only [codes1, List.mem_cons, List.not_mem_nil, or_false] at hc
  rcases hc with rfl | rfl
  · exact w_c0
  · exact w_c1
set_option maxRecDepth 65536 in
theorem w_t1 : (words1.take 24).all (fun c => isCode c || c.before args0 about1) = true := by decide +kernel
set_option maxRecDepth 65536 in
theorem w_t2 : ((words1.drop 24).take 24).all (fun c => isCode c || c.before args0 about1) = true := by decide +kernel
set_option maxRecDepth 65536 in
theorem w_t3 : ((words1.drop 24).drop 24).all (fun c => isCode c || c.before args0 about1) = true := by decide +kernel
theorem w_tables : (allAtoms (Jvm.Cond.code x code maxLocals ret :: tables_1)).before args0 about1 = true := by
  rw [allAtoms_all]
  show words1.all (fun c => c.before args0 about1) = true
  refine all_split ?_ w_codes
  rw [← List.take_append_drop 24 words1, List.all_append, w_t1, ← List.take_append_drop 24 (words1.drop 24), List.all_append, w_t2, w_t3]
  rfl
set_option maxRecDepth 65536 in
theorem w_case : (Jvm.Cond.and given_1 narrow_1).before args0 about1 = true := by decide +kernel
theorem w_applies : (headSpec (Jvm.Cond.code x code maxLocals ret :: tables_1) room_1).applies x e0.platform about1 = true :=
  (Spec.applies_iff w_frames).mpr ⟨w_running, w_runnable, w_alone, w_named, w_hears, w_ripe, w_room, w_tables⟩
theorem atStart : AtStart classFile x code maxLocals ret World_1 tables_1 room_1 Calls_1 rest_1 Pre_1 launch0 p0 e0 about1 theMethod args0 below0 :=
  ⟨lists_1, trivial, launch0.admits_env _ _ _, launch0.least_env, fairChoices_fair.cas, fairChoices_fair.clock, w_frames, w_args, w_heap, w_applies, trivial, trivial, w_case⟩
end start1
theorem witness_1 : WitnessClaimed_1 := ⟨start1.p0, start1.e0, start1.about1, start1.theMethod, start1.args0, start1.below0, start1.atStart⟩
end Jvm.Pilot.@@N@@
