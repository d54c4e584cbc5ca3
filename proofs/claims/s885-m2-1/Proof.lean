import JvmDerived
import JvmDerived.Pilot.@@N@@Statement
import JvmDerived.Pilot.@@N@@Code
set_option linter.unusedVariables false
set_option linter.unusedSimpArgs false
namespace Jvm.RoadKit
open Sem ClassFile Op Lib Jvm.Stand Jvm.Free Jvm.LawKit
section New
variable {p : Program} {l : Launch} {e : Env} {R : Room} {s : State} {m : MethodId} {args : Array Value} {below : List Frame} {meth : Method} {c : Code} {T : State} {locs : List Loc} {cells slots : Nat}
theorem retI (X : Stand p l e R s m args below meth c T locs cells slots) (hx : p.tables.exec = Jvm.exec) {pc : Nat} {Ls : Array Slot} {z : Int32} {rest : List Value} (hret : meth.sig.returnType = some .int) (hd : decode c.code pc = .ok (.ireturn, 1)) {fs : List Frame}
    (hl : ∀ (f : JFrame) (acts : List Action), f.method = m → f.locked = none → f.entered = [] → (doReturn e (T.setTop f) acts (some (.int z))).1 = T.setFrames fs) : Steps p.tables e below (T.setTop (mkF m pc Ls (.int z :: rest))) (T.setFrames fs) := by
  have hm' : T.vm.method? m = some meth := X.method'
  have hn : narrow .int (.int z) = .int z := rfl
  show Steps p.tables e below (T.setTop { method := m, pc := pc, locals := Ls, stack := _ :: rest, locked := none }) _
  jvm_step X.here [X.here.top, hx, hd, hm', hret, hn]
  first | (intro acts; rw [hl _ acts rfl rfl rfl]) | rw [hl _ _ rfl rfl rfl]
  exact Steps.refl _
end New
end Jvm.RoadKit
namespace Jvm.Pilot.@@N@@
open Jvm Jvm.ClassFile Sem Op Lib Jvm.Free Jvm.Stand Jvm.LawKit Jvm.RoadKit Bundle Jvm.Pilot.@@N@@.Jvm.D
theorem ow {Z : State} {a0 : Array Value} (hw : ∀ d ∈ tables_1, d.before a0 Z = true) (i : Nat) {d : Jvm.Cond} (h : tables_1[i]? = some d) : d.before a0 Z = true := hw _ (List.mem_of_getElem? h)
def own_b (P : Prop) [Decidable P] : Int32 := if P then 1 else 0
theorem own_b_t {P : Prop} [Decidable P] (h : P) : own_b P = 1 := if_pos h
theorem own_b_f {P : Prop} [Decidable P] (h : ¬ P) : own_b P = 0 := if_neg h
theorem own_b_nz {P : Prop} [Decidable P] (h : P) : ¬ (own_b P = (0 : Int32)) := by rw [own_b_t h]; decide
theorem own_b_nar (P : Prop) [Decidable P] : nar .boolean (own_b P) = own_b P := by
  by_cases h : P
  · rw [own_b_t h]; rfl
  · rw [own_b_f h]; rfl
theorem own_sel {Z s : State} {a0 args : Array Value} {y : MethodName} {n : Nat} (hZ : Z.Warmed39 s.vm) (wi : (Jvm.Cond.instantiable y.cls n).before a0 Z = true) (wp : (Jvm.Cond.privateMethod y).before a0 Z = true) (wm : (Jvm.Cond.instanceMethod y).before a0 Z = true) (hy : y.cls ≠ "java/lang/invoke/MethodHandle" ∧ y.cls ≠ "java/lang/invoke/VarHandle") : (Jvm.Cond.selects y.cls y y).before args s = true := by
  have wi' : (Jvm.Cond.instantiable y.cls n).before args s = true := mvT hZ wi
  obtain ⟨c, k, h1, h2, h3, h4, -⟩ := Cond.instantiable_spec wi'
  have h5 : k.isInterface = false := by
    cases hq : k.isInterface with
    | false => rfl
    | true => rw [hq] at h4; simp at h4
  exact Jvm.Stand.selects_self_of_private h1 h2 h5 (Cond.privateMethod_at (mvP hZ wp (args := args))) (mvT hZ wm) hy
theorem own_nf {s : State} {args : Array Value} {C : String} {y y' : MethodName} (w : (Jvm.Cond.selects C y' y').before args s = true) (e : y'.cls = y.cls) : NotFace s y := fun r0 h0 => by
  obtain ⟨c2, r2, m2, q1, q2, q3, q4, kP, hkP, hkPi⟩ := Cond.selects_spec w
  have h1 := findClass_of_methodNamed h0
  have h2 := findClass_of_methodNamed q3
  rw [e] at h2
  have h3 := Option.some.inj (h1.symm.trans h2)
  exact ⟨kP, by rw [h3]; exact hkP, hkPi⟩
theorem own_selN {Z s : State} {a0 args : Array Value} {y : MethodName} (hZ : Z.Warmed39 s.vm) (nf : NotFace s y) (wp : (Jvm.Cond.privateMethod y).before a0 Z = true) (wm : (Jvm.Cond.instanceMethod y).before a0 Z = true) (hy : y.cls ≠ "java/lang/invoke/MethodHandle" ∧ y.cls ≠ "java/lang/invoke/VarHandle") : (Jvm.Cond.selects y.cls y y).before args s = true := by
  have wm' : (Jvm.Cond.instanceMethod y).before args s = true := mvT hZ wm
  obtain ⟨mk, methM, hnamed, -⟩ := Cond.instanceMethod_spec wm'
  obtain ⟨k, hk, hki⟩ := nf mk hnamed
  exact Jvm.Stand.selects_self_of_private (findClass_of_methodNamed hnamed) hk hki (Cond.privateMethod_at (mvP hZ wp (args := args))) wm' hy
theorem own_b01 (P : Prop) [Decidable P] : own_b P = (0 : Int32) ∨ own_b P = (1 : Int32) := by
  by_cases h : P
  · exact Or.inr (own_b_t h)
  · exact Or.inl (own_b_f h)
theorem own_b_iff {P : Prop} [Decidable P] : own_b P = (0 : Int32) ↔ ¬ P := ⟨fun q h => own_b_nz h q, own_b_f⟩
theorem own_eqI {args : Array Value} {first s : State} {o : Option Outcome} {idx : List Nat} {a : Term} {n : Int32} (h : (Jvm.Cond.eq a (Term.int n)).value args first o s idx = some true) : a.eval args first o idx s = some (.int n) := by
  obtain ⟨x, y, ha, hb, k1, k2⟩ := cmp_v (Or.inl h)
  obtain rfl : y = .int n := (Option.some.inj ((Term.int_eval n).symm.trans hb)).symm
  obtain ⟨z, rfl⟩ := k2
  have q := gotT (Cond.eq_ints ha (Term.int_eval n)) h
  rw [ha, q]
theorem own_ne {s : State} {a b : Addr} {C n d : String} {x y : Int32} (h1 : s.fieldOf? a C n d = some (.int x)) (h2 : s.fieldOf? b C n d = some (.int y)) (h : x ≠ y) : a ≠ b := fun q => by
  subst q
  exact h (Value.int.inj (Option.some.inj (h1.symm.trans h2)))
theorem own_eqR {args : Array Value} {first s : State} {o : Option Outcome} {idx : List Nat} {a b : Term} {t : Addr} (h : (Jvm.Cond.eq a b).value args first o s idx = some true) (hb : b.eval args first o idx s = some (.ref t)) : a.eval args first o idx s = some (.ref t) := by
  obtain ⟨x, y, ha, hb', k1, k2⟩ := cmp_v (Or.inl h)
  obtain rfl : y = .ref t := Option.some.inj (hb'.symm.trans hb)
  have q := gotT (eq_R ha hb k2.2 rfl) h
  rw [ha, q]
def own_of (q : Int64) (t0 t1 t2 t3 t4 t5 : Addr) : Value := if q = (1 : Int64) then .ref t0 else if q = (2 : Int64) then .ref t1 else if q = (3 : Int64) then .ref t2 else if q = (4 : Int64) then .ref t3 else if q = (5 : Int64) then .ref t4 else if q = (7 : Int64) then .ref t5 else .null
theorem own_ofr (q : Int64) (t0 t1 t2 t3 t4 t5 : Addr) : (own_of q t0 t1 t2 t3 t4 t5).isRef = true := by
  unfold own_of
  repeat' split
  all_goals rfl
theorem pn0 : plainName "com/example/docketline/docketline/lobster/EventType" = true := by first | (simp [plainName, overriddenIn]; done) | decide +kernel
theorem d2_0 : decode prog_54_method_1_code 0 = .ok (.getstatic 22, 3) := by decide +kernel
theorem d2_3 : decode prog_54_method_1_code 3 = .ok (.invokevirtual 26, 3) := by decide +kernel
theorem d2_6 : decode prog_54_method_1_code 6 = .ok (.checkcast 27, 3) := by decide +kernel
theorem d2_9 : decode prog_54_method_1_code 9 = .ok (.areturn, 1) := by decide +kernel
theorem ef2 (m : MethodId)  : entryFrame m #[] 0 = mkF m 0 #[] [] := by first | (simp [entryFrame, mkF, argsToLocals, Value.category]; done) | rfl
def Q2 (Z : State) (va : Addr) (kc : ClassId) (t0 : Addr) (t1 : Addr) (t2 : Addr) (t3 : Addr) (t4 : Addr) (t5 : Addr) (h0 : Heap) (n0 : Nat) (v : Option Value) (h : Heap) (L : List Loc) : Prop := ∃ (b : Addr), v = some (.ref b) ∧ Fr n0 L ∧ Keep h0 h [] ∧ Arv Z h b kc (.object "com/example/docketline/docketline/lobster/EventType") (6 : Int32) [(.ref t0), (.ref t1), (.ref t2), (.ref t3), (.ref t4), (.ref t5)] .null
set_option maxRecDepth 65536 in
set_option maxHeartbeats 40000000 in
theorem rm2 (l : Launch) (Z : State) (a0 : Array Value) (hw : ∀ d ∈ tables_1, d.before a0 Z = true) (ws : List Jvm.Cond) (va : Addr) (kc : ClassId) (t0 : Addr) (t1 : Addr) (t2 : Addr) (t3 : Addr) (t4 : Addr) (t5 : Addr) (h0 : Heap) (n0 : Nat) (Z0 : n0 ≤ h0.size) (Sv : Sta Z Z.heap "com/example/docketline/docketline/lobster/EventType" "$VALUES" "[Lcom/example/docketline/docketline/lobster/EventType;" (.ref va)) (O0 : Old Z n0 h0) (V0 : Arv Z h0 va kc (.object "com/example/docketline/docketline/lobster/EventType") (6 : Int32) [(.ref t0), (.ref t1), (.ref t2), (.ref t3), (.ref t4), (.ref t5)] .null) (E0 : Exa Z h0 va "[Lcom/example/docketline/docketline/lobster/EventType;") :
    MetFree l (⟨"com/example/docketline/docketline/lobster/EventType", "values", "()[Lcom/example/docketline/docketline/lobster/EventType;"⟩ : MethodName) (head1 (Jvm.Cond.code (⟨"com/example/docketline/docketline/lobster/EventType", "values", "()[Lcom/example/docketline/docketline/lobster/EventType;"⟩ : MethodName) prog_54_method_1_code 0 (some (.array (.object "com/example/docketline/docketline/lobster/EventType"))) :: ws) ({ frames := 1, cells := 1, slots := 6, locals := 14 } : Room)) (fun a U => a = #[] ∧ Z.Warmed39 U.vm ∧ U.heap = h0) (fun _ _ _ _ _ => True) (fun _ U o U' => ∃ v L, o = .returned v ∧ Q2 Z va kc t0 t1 t2 t3 t4 t5 h0 n0 v U'.heap L ∧ FrameEnd U o U' L ({ frames := 1, cells := 1, slots := 6, locals := 14 } : Room).cells ({ frames := 1, cells := 1, slots := 6, locals := 14 } : Room).slots) := by
  refine MetFree.of_bodySF (plainFor_of_name pn0) hisR ?_
  intro p e s m args below meth c s₁ Bd hml0 hP hK
  obtain ⟨rfl, hZ, hh⟩ := hP
  have hx := Bd.exec
  have hby := Bd.bytes
  have hml : c.maxLocals = 0 := hml0
  have hown : s.vm.findClass "com/example/docketline/docketline/lobster/EventType" = some m.cls := findClass_of_methodNamed Bd.named
  have hnm := (name_of_methodNamed Bd.named Bd.method).1
  have X0 : Stand p l e ({ frames := 1, cells := 1, slots := 6, locals := 14 } : Room) s m #[] below meth c s₁ [] 0 0 := Stand.of_body Bd
  have e0 : s₁.heap = h0 := by rw [← hh, Bd.state]; rfl
  have N0 := Fr.nil n0
  have pre0 : ∀ t, Steps p.tables e below (s₁.setTop (mkF m 0 #[] [])) t → Steps p.tables e below (s₁.setTop (entryFrame m #[] 0)) t := fun t k => castTop (ef2 m ) k
  obtain ⟨T1, X1, e1, st1⟩ := getS2 X0 hx hZ hown (host := "") (Or.inl (ow hw 9 rfl)) Via.refl e0 (Sv.ext O0.2) (g := (mkF m 0 #[] [])) rfl (hb hby d2_0)
  obtain ⟨T2, h2, X2, e2, E2, A2, B2, st2⟩ := cloneH X1 hx hZ hown (ow hw 11 rfl) (ow hw 12 rfl) (ow hw 16 rfl) (ow hw 14 rfl) (ow hw 15 rfl) (ow hw 17 rfl) e1 V0.arh E0 (g := (mkF m 3 #[] [(.ref va)])) rfl (by rw [hml]; rfl) rfl (hb hby d2_3) (by decide) (W := 0) (cap := 6) (by show 2 * 0 + _ ≤ _; exact Nat.le_of_eq rfl) (by decide) (by decide) (by decide) (by decide)
  obtain ⟨b2, g2⟩ : ∃ z, z = h0.size := ⟨_, rfl⟩
  rw [← g2] at A2 B2 st2
  have ne3 : va ≠ b2 := Nat.ne_of_lt (Nat.lt_of_lt_of_le E0.lt (Nat.le_of_eq g2.symm))
  have gn_b2 : n0 ≤ b2 := Nat.le_trans Z0 (Nat.le_of_eq g2.symm)
  have sz_b2 : h0.size ≤ b2 := Nat.le_trans (Keep.refl h0 []).1 (Nat.le_of_eq g2.symm)
  have Z4 : n0 ≤ h2.size := Nat.le_trans Z0 E2.1
  have K5 : Keep h0 h2 [] := (Keep.refl h0 []).ext E2
  have V2 : Arv Z h2 b2 kc (.object "com/example/docketline/docketline/lobster/EventType") (6 : Int32) [(.ref t0), (.ref t1), (.ref t2), (.ref t3), (.ref t4), (.ref t5)] .null := A2
  obtain ⟨T6, X6, e6, st6⟩ := castY X2 hx hZ hown (ow hw 25 rfl) e2 (Ins.self B2) (g := (mkF m 6 #[] [(.ref b2)])) rfl rfl (hb hby d2_6)
  obtain ⟨fs, hr, hrun, hended, hW, hsame⟩ := X6.leave (v := some (.ref b2)) (fun h => by rw [Bd.returns] at h; cases h)
  refine ⟨_, _, pre0 _ ?_, hrun, hended, _, _, rfl, ?_, ⟨_, rfl⟩, hW, hsame.mono (by decide) (by decide)⟩
  · show Steps p.tables e below (s₁.setTop (mkF m 0 #[] [])) _
    refine st1 _ ?_
    show Steps p.tables e below (T1.setTop (mkF m 3 #[] [(.ref va)])) _
    refine st2 _ ?_
    show Steps p.tables e below (T2.setTop (mkF m 6 #[] [(.ref b2)])) _
    refine st6 _ ?_
    show Steps p.tables e below (T6.setTop (mkF m 9 #[] [(.ref b2)])) _
    jvm_step X6.here [X6.here.top, hx, (hb hby d2_9), X6.method', Bd.returns, Value.isRef, FieldType.isReference]
    first | (intro acts; rw [hr _ acts rfl rfl rfl]) | rw [hr _ _ rfl rfl rfl]
    exact Steps.refl _
  · show Q2 Z va kc t0 t1 t2 t3 t4 t5 h0 n0 _ T6.heap _
    rw [e6]
    exact ⟨b2, rfl, N0, K5, V2⟩
theorem d1_0 : decode prog_54_method_6_code 0 = .ok (.invokestatic 49, 3) := by decide +kernel
theorem pd1 : parseMethodDescriptor "()[Lcom/example/docketline/docketline/lobster/EventType;" = some ⟨[], some (.array (.object "com/example/docketline/docketline/lobster/EventType"))⟩ := by decide +kernel
theorem d1_3 : decode prog_54_method_6_code 3 = .ok (.astore_n 2, 1) := by decide +kernel
theorem d1_4 : decode prog_54_method_6_code 4 = .ok (.aload_n 2, 1) := by decide +kernel
theorem d1_5 : decode prog_54_method_6_code 5 = .ok (.arraylength, 1) := by decide +kernel
theorem d1_6 : decode prog_54_method_6_code 6 = .ok (.istore_n 3, 1) := by decide +kernel
theorem d1_7 : decode prog_54_method_6_code 7 = .ok (.iconst 0, 1) := by decide +kernel
theorem d1_8 : decode prog_54_method_6_code 8 = .ok (.istore 4, 2) := by decide +kernel
theorem d1_10 : decode prog_54_method_6_code 10 = .ok (.iload 4, 2) := by decide +kernel
theorem d1_12 : decode prog_54_method_6_code 12 = .ok (.iload_n 3, 1) := by decide +kernel
theorem d1_13 : decode prog_54_method_6_code 13 = .ok (.if_icmp .ge 29, 3) := by decide +kernel
theorem d1_16 : decode prog_54_method_6_code 16 = .ok (.aload_n 2, 1) := by decide +kernel
theorem d1_17 : decode prog_54_method_6_code 17 = .ok (.iload 4, 2) := by decide +kernel
theorem d1_19 : decode prog_54_method_6_code 19 = .ok (.aaload, 1) := by decide +kernel
theorem d1_20 : decode prog_54_method_6_code 20 = .ok (.astore 5, 2) := by decide +kernel
theorem d1_22 : decode prog_54_method_6_code 22 = .ok (.aload 5, 2) := by decide +kernel
theorem d1_24 : decode prog_54_method_6_code 24 = .ok (.getfield 41, 3) := by decide +kernel
theorem d1_27 : decode prog_54_method_6_code 27 = .ok (.i2l, 1) := by decide +kernel
theorem d1_28 : decode prog_54_method_6_code 28 = .ok (.lload_n 0, 1) := by decide +kernel
theorem d1_29 : decode prog_54_method_6_code 29 = .ok (.lcmp, 1) := by decide +kernel
theorem d1_30 : decode prog_54_method_6_code 30 = .ok (.ifCond .ne 6, 3) := by decide +kernel
theorem d1_33 : decode prog_54_method_6_code 33 = .ok (.aload 5, 2) := by decide +kernel
theorem d1_35 : decode prog_54_method_6_code 35 = .ok (.areturn, 1) := by decide +kernel
theorem d1_36 : decode prog_54_method_6_code 36 = .ok (.iinc 4 1, 3) := by decide +kernel
theorem d1_39 : decode prog_54_method_6_code 39 = .ok (.goto (-29), 3) := by decide +kernel
theorem d1_42 : decode prog_54_method_6_code 42 = .ok (.aconst_null, 1) := by decide +kernel
theorem d1_43 : decode prog_54_method_6_code 43 = .ok (.areturn, 1) := by decide +kernel
theorem ef1 (m : MethodId) (q1 : Int64) : entryFrame m #[(.long q1)] 6 = mkF m 0 #[.val (.long q1), .second, .unset, .unset, .unset, .unset] [] := by first | (simp [entryFrame, mkF, argsToLocals, Value.category]; done) | rfl
def Q1 (Z : State) (q1 : Int64) (va : Addr) (kc : ClassId) (t0 : Addr) (t1 : Addr) (t2 : Addr) (t3 : Addr) (t4 : Addr) (t5 : Addr) (h0 : Heap) (n0 : Nat) (v : Option Value) (h : Heap) (L : List Loc) : Prop := v = some (own_of q1 t0 t1 t2 t3 t4 t5) ∧ Fr n0 L ∧ Keep h0 h []
set_option maxRecDepth 65536 in
set_option maxHeartbeats 40000000 in
theorem rm1 (l : Launch) (Z : State) (a0 : Array Value) (hw : ∀ d ∈ tables_1, d.before a0 Z = true) (ws : List Jvm.Cond) (q1 : Int64) (va : Addr) (kc : ClassId) (t0 : Addr) (t1 : Addr) (t2 : Addr) (t3 : Addr) (t4 : Addr) (t5 : Addr) (h0 : Heap) (n0 : Nat) (Z0 : n0 ≤ h0.size) (Sv : Sta Z Z.heap "com/example/docketline/docketline/lobster/EventType" "$VALUES" "[Lcom/example/docketline/docketline/lobster/EventType;" (.ref va)) (O0 : Old Z n0 h0) (V0 : Arv Z h0 va kc (.object "com/example/docketline/docketline/lobster/EventType") (6 : Int32) [(.ref t0), (.ref t1), (.ref t2), (.ref t3), (.ref t4), (.ref t5)] .null) (E0 : Exa Z h0 va "[Lcom/example/docketline/docketline/lobster/EventType;") (C0 : Fld Z h0 t0 "com/example/docketline/docketline/lobster/EventType" "code" "I" (.int (1 : Int32))) (C1 : Fld Z h0 t1 "com/example/docketline/docketline/lobster/EventType" "code" "I" (.int (2 : Int32))) (C2 : Fld Z h0 t2 "com/example/docketline/docketline/lobster/EventType" "code" "I" (.int (3 : Int32))) (C3 : Fld Z h0 t3 "com/example/docketline/docketline/lobster/EventType" "code" "I" (.int (4 : Int32))) (C4 : Fld Z h0 t4 "com/example/docketline/docketline/lobster/EventType" "code" "I" (.int (5 : Int32))) (C5 : Fld Z h0 t5 "com/example/docketline/docketline/lobster/EventType" "code" "I" (.int (7 : Int32))) :
    MetFree l (⟨"com/example/docketline/docketline/lobster/EventType", "of", "(J)Lcom/example/docketline/docketline/lobster/EventType;"⟩ : MethodName) (head1 (Jvm.Cond.code (⟨"com/example/docketline/docketline/lobster/EventType", "of", "(J)Lcom/example/docketline/docketline/lobster/EventType;"⟩ : MethodName) prog_54_method_6_code 6 (some (.object "com/example/docketline/docketline/lobster/EventType")) :: ws) ({ frames := 2, cells := 1, slots := 6, locals := 25 } : Room)) (fun a U => a = #[(.long q1)] ∧ Z.Warmed39 U.vm ∧ U.heap = h0) (fun _ _ _ _ _ => True) (fun _ U o U' => ∃ v L, o = .returned v ∧ Q1 Z q1 va kc t0 t1 t2 t3 t4 t5 h0 n0 v U'.heap L ∧ FrameEnd U o U' L ({ frames := 2, cells := 1, slots := 6, locals := 25 } : Room).cells ({ frames := 2, cells := 1, slots := 6, locals := 25 } : Room).slots) := by
  refine MetFree.of_bodySF (plainFor_of_name pn0) hisR ?_
  intro p e s m args below meth c s₁ Bd hml0 hP hK
  obtain ⟨rfl, hZ, hh⟩ := hP
  have hx := Bd.exec
  have hby := Bd.bytes
  have hml : c.maxLocals = 6 := hml0
  have hown : s.vm.findClass "com/example/docketline/docketline/lobster/EventType" = some m.cls := findClass_of_methodNamed Bd.named
  have hnm := (name_of_methodNamed Bd.named Bd.method).1
  have X0 : Stand p l e ({ frames := 2, cells := 1, slots := 6, locals := 25 } : Room) s m #[(.long q1)] below meth c s₁ [] 0 0 := Stand.of_body Bd
  have e0 : s₁.heap = h0 := by rw [← hh, Bd.state]; rfl
  have N0 := Fr.nil n0
  have pre0 : ∀ t, Steps p.tables e below (s₁.setTop (mkF m 0 #[.val (.long q1), .second, .unset, .unset, .unset, .unset] [])) t → Steps p.tables e below (s₁.setTop (entryFrame m #[(.long q1)] 6)) t := fun t k => castTop (ef1 m q1) k
  obtain ⟨_, _, ⟨T1, L1, k1, n1⟩, -, X1, ⟨Lc1, hQ1, l1, y1, z1⟩, st1⟩ := Jvm.LawKit.callS X0 hx (y := (⟨"com/example/docketline/docketline/lobster/EventType", "values", "()[Lcom/example/docketline/docketline/lobster/EventType;"⟩ : MethodName)) hown (mvT hZ (ow hw 6 rfl)) (mvT hZ (ow hw 7 rfl)) (mvT hZ (ow hw 4 rfl)) (mvT hZ (ow hw 8 rfl)) (by decide) (backOf (W := 0) (rm2 l Z a0 hw [] va kc t0 t1 t2 t3 t4 t5 h0 n0 Z0 Sv O0 V0 E0) hZ (ow hw 8 rfl) (ow hw 4 rfl) (by decide) (by decide)) (g := (mkF m 0 #[.val (.long q1), .second, .unset, .unset, .unset, .unset] [])) rfl (by rw [hml]; rfl) (argsL := []) (rest := []) (lenOf pd1 rfl) rfl (by show 2 * 0 + _ ≤ _; exact Nat.le_of_eq rfl) (hb hby d1_0) (fun _ _ => ⟨rfl, e0, (by decide : 0 + 1 ≤ _), (by decide : 0 + 6 ≤ _)⟩)
  dsimp only [Pt.U, Pt.locs, Pt.cells, Pt.slots] at X1 l1 y1 z1 st1 hQ1
  subst l1 y1 z1
  obtain ⟨b_2, rfl, N1q, K1, f1_0⟩ := hQ1
  have N1 := Fr.app N0 N1q
  have Z3 : n0 ≤ T1.heap.size := Nat.le_trans Z0 K1.1
  have K4 : Keep h0 T1.heap [] := (Keep.refl h0 []).trans K1 all0
  obtain ⟨c5, Arc5, -, Sc5, Mc5, -, -⟩ := id f1_0
  obtain ⟨c6, Arc6, qc6, Sc6, Mc6, Hc6, Gc6⟩ := id f1_0
  have hinc6 : ¬ ((0 : Int32) < 0 ∨ c6.slots.size ≤ ((0 : Int32)).toNatClampNeg) := inb_of Sc6 ⟨by decide, by decide⟩
  have hatc6 : c6.slots[((0 : Int32)).toNatClampNeg]? = some (.ref t0) := Hc6.at hinc6 rfl
  have fa7 : Fld Z T1.heap t0 "com/example/docketline/docketline/lobster/EventType" "code" "I" (.int (1 : Int32)) := (C0.keep K1 nin0)
  obtain ⟨T8, X8, e8, st8⟩ := getF X1 hx hZ hown (host := "") (Or.inl (ow hw 27 rfl)) Via.refl rfl fa7 (g := (mkF m 24 #[.val (.long q1), .second, .val (.ref b_2), .val (.int (6 : Int32)), .val (.int (0 : Int32)), .val (.ref t0)] [(.ref t0)])) rfl rfl (hb hby d1_24)
  have pre9 : ∀ t, Steps p.tables e below (T8.setTop (mkF m 30 #[.val (.long q1), .second, .val (.ref b_2), .val (.int (6 : Int32)), .val (.int (0 : Int32)), .val (.ref t0)] [(.int (lcmpW (1 : Int64) q1))])) t → Steps p.tables e below (s₁.setTop (entryFrame m #[(.long q1)] 6)) t := fun t k => pre0 t (by
    show Steps p.tables e below (s₁.setTop (mkF m 0 #[.val (.long q1), .second, .unset, .unset, .unset, .unset] [])) _
    refine st1 _ ?_
    show Steps p.tables e below (T1.setTop (mkF m 3 #[.val (.long q1), .second, .unset, .unset, .unset, .unset] [(.ref b_2)])) _
    refine XS.astoreN X1.here hx rfl (hb hby d1_3) rfl rfl (l' := #[.val (.long q1), .second, .val (.ref b_2), .unset, .unset, .unset]) rfl ?_
    show Steps p.tables e below (T1.setTop (mkF m 4 #[.val (.long q1), .second, .val (.ref b_2), .unset, .unset, .unset] [])) _
    refine XS.aloadN X1.here hx rfl (hb hby d1_4) rfl rfl ?_
    show Steps p.tables e below (T1.setTop (mkF m 5 #[.val (.long q1), .second, .val (.ref b_2), .unset, .unset, .unset] [(.ref b_2)])) _
    refine X1.arraylength hx (by exact Arc5.1) (State.isArrayOf_alike hZ.alike Arc5.2.1) (g := (mkF m 5 #[.val (.long q1), .second, .val (.ref b_2), .unset, .unset, .unset] [(.ref b_2)])) rfl rfl (hb hby d1_5) _ ?_
    rw [len_of Sc5 Mc5]
    show Steps p.tables e below (T1.setTop (mkF m 6 #[.val (.long q1), .second, .val (.ref b_2), .unset, .unset, .unset] [(.int (6 : Int32))])) _
    refine XS.istoreN X1.here hx rfl (hb hby d1_6) rfl (l' := #[.val (.long q1), .second, .val (.ref b_2), .val (.int (6 : Int32)), .unset, .unset]) rfl ?_
    show Steps p.tables e below (T1.setTop (mkF m 7 #[.val (.long q1), .second, .val (.ref b_2), .val (.int (6 : Int32)), .unset, .unset] [])) _
    refine XS.iconst X1.here hx rfl (hb hby d1_7) ?_
    show Steps p.tables e below (T1.setTop (mkF m 8 #[.val (.long q1), .second, .val (.ref b_2), .val (.int (6 : Int32)), .unset, .unset] [(.int (0 : Int32))])) _
    refine XS.istore X1.here hx rfl (hb hby d1_8) rfl (l' := #[.val (.long q1), .second, .val (.ref b_2), .val (.int (6 : Int32)), .val (.int (0 : Int32)), .unset]) rfl ?_
    show Steps p.tables e below (T1.setTop (mkF m 10 #[.val (.long q1), .second, .val (.ref b_2), .val (.int (6 : Int32)), .val (.int (0 : Int32)), .unset] [])) _
    refine XS.iload X1.here hx rfl (hb hby d1_10) rfl  ?_
    show Steps p.tables e below (T1.setTop (mkF m 12 #[.val (.long q1), .second, .val (.ref b_2), .val (.int (6 : Int32)), .val (.int (0 : Int32)), .unset] [(.int (0 : Int32))])) _
    refine XS.iloadN X1.here hx rfl (hb hby d1_12) rfl  ?_
    show Steps p.tables e below (T1.setTop (mkF m 13 #[.val (.long q1), .second, .val (.ref b_2), .val (.int (6 : Int32)), .val (.int (0 : Int32)), .unset] [(.int (6 : Int32)), (.int (0 : Int32))])) _
    refine XS.icmpNo X1.here hx rfl (hb hby d1_13) rfl (tlt (by decide)).2.1 ?_
    show Steps p.tables e below (T1.setTop (mkF m 16 #[.val (.long q1), .second, .val (.ref b_2), .val (.int (6 : Int32)), .val (.int (0 : Int32)), .unset] [])) _
    refine XS.aloadN X1.here hx rfl (hb hby d1_16) rfl rfl ?_
    show Steps p.tables e below (T1.setTop (mkF m 17 #[.val (.long q1), .second, .val (.ref b_2), .val (.int (6 : Int32)), .val (.int (0 : Int32)), .unset] [(.ref b_2)])) _
    refine XS.iload X1.here hx rfl (hb hby d1_17) rfl  ?_
    show Steps p.tables e below (T1.setTop (mkF m 19 #[.val (.long q1), .second, .val (.ref b_2), .val (.int (6 : Int32)), .val (.int (0 : Int32)), .unset] [(.int (0 : Int32)), (.ref b_2)])) _
    refine X1.aaload hx (j := (0 : Int32)) (v := (.ref t0)) (by exact Arc6.1) (State.isArrayOf_alike hZ.alike Arc6.2.1) rfl Arc6.2.2 hinc6 hatc6 (g := (mkF m 19 #[.val (.long q1), .second, .val (.ref b_2), .val (.int (6 : Int32)), .val (.int (0 : Int32)), .unset] [(.int (0 : Int32)), (.ref b_2)])) rfl rfl (hb hby d1_19) _ ?_
    show Steps p.tables e below (T1.setTop (mkF m 20 #[.val (.long q1), .second, .val (.ref b_2), .val (.int (6 : Int32)), .val (.int (0 : Int32)), .unset] [(.ref t0)])) _
    refine XS.astore X1.here hx rfl (hb hby d1_20) rfl rfl (l' := #[.val (.long q1), .second, .val (.ref b_2), .val (.int (6 : Int32)), .val (.int (0 : Int32)), .val (.ref t0)]) rfl ?_
    show Steps p.tables e below (T1.setTop (mkF m 22 #[.val (.long q1), .second, .val (.ref b_2), .val (.int (6 : Int32)), .val (.int (0 : Int32)), .val (.ref t0)] [])) _
    refine XS.aload X1.here hx rfl (hb hby d1_22) rfl rfl ?_
    show Steps p.tables e below (T1.setTop (mkF m 24 #[.val (.long q1), .second, .val (.ref b_2), .val (.int (6 : Int32)), .val (.int (0 : Int32)), .val (.ref t0)] [(.ref t0)])) _
    refine st8 _ ?_
    show Steps p.tables e below (T8.setTop (mkF m 27 #[.val (.long q1), .second, .val (.ref b_2), .val (.int (6 : Int32)), .val (.int (0 : Int32)), .val (.ref t0)] [(.int (1 : Int32))])) _
    refine XS.i2l X8.here hx rfl (hb hby d1_27) rfl ?_
    show Steps p.tables e below (T8.setTop (mkF m 28 #[.val (.long q1), .second, .val (.ref b_2), .val (.int (6 : Int32)), .val (.int (0 : Int32)), .val (.ref t0)] [(.long ((1 : Int32).toInt64))])) _
    rw [show ((1 : Int32).toInt64) = (1 : Int64) from by decide]
    show Steps p.tables e below (T8.setTop (mkF m 28 #[.val (.long q1), .second, .val (.ref b_2), .val (.int (6 : Int32)), .val (.int (0 : Int32)), .val (.ref t0)] [(.long (1 : Int64))])) _
    refine XS.lloadN X8.here hx rfl (hb hby d1_28) rfl  ?_
    show Steps p.tables e below (T8.setTop (mkF m 29 #[.val (.long q1), .second, .val (.ref b_2), .val (.int (6 : Int32)), .val (.int (0 : Int32)), .val (.ref t0)] [(.long q1), (.long (1 : Int64))])) _
    refine XS.lcmp X8.here hx rfl (hb hby d1_29) rfl ?_
    exact k)
  by_cases hc10 : (1 : Int64) = q1
  ·  -- yes
    obtain ⟨fs, hr, hrun, hended, hW, hsame⟩ := X8.leave (v := some (.ref t0)) (fun h => by rw [Bd.returns] at h; cases h)
    refine ⟨_, _, pre9 _ ?_, hrun, hended, _, _, rfl, ?_, ⟨_, rfl⟩, hW, hsame.mono (by decide) (by decide)⟩
    · show Steps p.tables e below (T8.setTop (mkF m 30 #[.val (.long q1), .second, .val (.ref b_2), .val (.int (6 : Int32)), .val (.int (0 : Int32)), .val (.ref t0)] [(.int (lcmpW (1 : Int64) q1))])) _
      refine XS.ifNo X8.here hx rfl (hb hby d1_30) rfl ((if0 _ _).trans (teq ((lw_eq _ _).mpr hc10)).2) ?_
      show Steps p.tables e below (T8.setTop (mkF m 33 #[.val (.long q1), .second, .val (.ref b_2), .val (.int (6 : Int32)), .val (.int (0 : Int32)), .val (.ref t0)] [])) _
      refine XS.aload X8.here hx rfl (hb hby d1_33) rfl rfl ?_
      show Steps p.tables e below (T8.setTop (mkF m 35 #[.val (.long q1), .second, .val (.ref b_2), .val (.int (6 : Int32)), .val (.int (0 : Int32)), .val (.ref t0)] [(.ref t0)])) _
      jvm_step X8.here [X8.here.top, hx, (hb hby d1_35), X8.method', Bd.returns, Value.isRef, FieldType.isReference]
      first | (intro acts; rw [hr _ acts rfl rfl rfl]) | rw [hr _ _ rfl rfl rfl]
      exact Steps.refl _
    · show Q1 Z q1 va kc t0 t1 t2 t3 t4 t5 h0 n0 _ T8.heap _
      rw [e8]
      exact ⟨(by unfold own_of; rw [if_pos hc10.symm]), N1, K4⟩
  ·  -- no
    obtain ⟨c11, Arc11, qc11, Sc11, Mc11, Hc11, Gc11⟩ := id f1_0
    have hinc11 : ¬ ((1 : Int32) < 0 ∨ c11.slots.size ≤ ((1 : Int32)).toNatClampNeg) := inb_of Sc11 ⟨by decide, by decide⟩
    have hatc11 : c11.slots[((1 : Int32)).toNatClampNeg]? = some (.ref t1) := Hc11.at hinc11 rfl
    have fa12 : Fld Z T1.heap t1 "com/example/docketline/docketline/lobster/EventType" "code" "I" (.int (2 : Int32)) := (C1.keep K1 nin0)
    obtain ⟨T13, X13, e13, st13⟩ := getF X8 hx hZ hown (host := "") (Or.inl (ow hw 27 rfl)) Via.refl e8 fa12 (g := (mkF m 24 #[.val (.long q1), .second, .val (.ref b_2), .val (.int (6 : Int32)), .val (.int (1 : Int32)), .val (.ref t1)] [(.ref t1)])) rfl rfl (hb hby d1_24)
    have pre14 : ∀ t, Steps p.tables e below (T13.setTop (mkF m 30 #[.val (.long q1), .second, .val (.ref b_2), .val (.int (6 : Int32)), .val (.int (1 : Int32)), .val (.ref t1)] [(.int (lcmpW (2 : Int64) q1))])) t → Steps p.tables e below (s₁.setTop (entryFrame m #[(.long q1)] 6)) t := fun t k => pre9 t (by
      show Steps p.tables e below (T8.setTop (mkF m 30 #[.val (.long q1), .second, .val (.ref b_2), .val (.int (6 : Int32)), .val (.int (0 : Int32)), .val (.ref t0)] [(.int (lcmpW (1 : Int64) q1))])) _
      refine XS.ifYes X8.here hx rfl (pc0 := 30) (pc' := 36) rfl (hb hby d1_30) rfl ((if0 _ _).trans (feq (fun q => hc10 ((lw_eq _ _).mp q))).2) (by decide) (by decide) ?_
      show Steps p.tables e below (T8.setTop (mkF m 36 #[.val (.long q1), .second, .val (.ref b_2), .val (.int (6 : Int32)), .val (.int (0 : Int32)), .val (.ref t0)] [])) _
      refine XS.iinc X8.here hx rfl (hb hby d1_36) rfl (l' := #[.val (.long q1), .second, .val (.ref b_2), .val (.int (6 : Int32)), .val (.int ((0 : Int32) + (1 : Int32))), .val (.ref t0)]) rfl ?_
      show Steps p.tables e below (T8.setTop (mkF m 39 #[.val (.long q1), .second, .val (.ref b_2), .val (.int (6 : Int32)), .val (.int ((0 : Int32) + (1 : Int32))), .val (.ref t0)] [])) _
      rw [show ((0 : Int32) + (1 : Int32)) = (1 : Int32) from by decide]
      show Steps p.tables e below (T8.setTop (mkF m 39 #[.val (.long q1), .second, .val (.ref b_2), .val (.int (6 : Int32)), .val (.int (1 : Int32)), .val (.ref t0)] [])) _
      refine XS.goto X8.here hx rfl (pc0 := 39) (pc' := 10) rfl (hb hby d1_39) (by decide) (by decide) ?_
      show Steps p.tables e below (T8.setTop (mkF m 10 #[.val (.long q1), .second, .val (.ref b_2), .val (.int (6 : Int32)), .val (.int (1 : Int32)), .val (.ref t0)] [])) _
      refine XS.iload X8.here hx rfl (hb hby d1_10) rfl  ?_
      show Steps p.tables e below (T8.setTop (mkF m 12 #[.val (.long q1), .second, .val (.ref b_2), .val (.int (6 : Int32)), .val (.int (1 : Int32)), .val (.ref t0)] [(.int (1 : Int32))])) _
      refine XS.iloadN X8.here hx rfl (hb hby d1_12) rfl  ?_
      show Steps p.tables e below (T8.setTop (mkF m 13 #[.val (.long q1), .second, .val (.ref b_2), .val (.int (6 : Int32)), .val (.int (1 : Int32)), .val (.ref t0)] [(.int (6 : Int32)), (.int (1 : Int32))])) _
      refine XS.icmpNo X8.here hx rfl (hb hby d1_13) rfl (tlt (by decide)).2.1 ?_
      show Steps p.tables e below (T8.setTop (mkF m 16 #[.val (.long q1), .second, .val (.ref b_2), .val (.int (6 : Int32)), .val (.int (1 : Int32)), .val (.ref t0)] [])) _
      refine XS.aloadN X8.here hx rfl (hb hby d1_16) rfl rfl ?_
      show Steps p.tables e below (T8.setTop (mkF m 17 #[.val (.long q1), .second, .val (.ref b_2), .val (.int (6 : Int32)), .val (.int (1 : Int32)), .val (.ref t0)] [(.ref b_2)])) _
      refine XS.iload X8.here hx rfl (hb hby d1_17) rfl  ?_
      show Steps p.tables e below (T8.setTop (mkF m 19 #[.val (.long q1), .second, .val (.ref b_2), .val (.int (6 : Int32)), .val (.int (1 : Int32)), .val (.ref t0)] [(.int (1 : Int32)), (.ref b_2)])) _
      refine X8.aaload hx (j := (1 : Int32)) (v := (.ref t1)) (by rw [e8]; exact Arc11.1) (State.isArrayOf_alike hZ.alike Arc11.2.1) rfl Arc11.2.2 hinc11 hatc11 (g := (mkF m 19 #[.val (.long q1), .second, .val (.ref b_2), .val (.int (6 : Int32)), .val (.int (1 : Int32)), .val (.ref t0)] [(.int (1 : Int32)), (.ref b_2)])) rfl rfl (hb hby d1_19) _ ?_
      show Steps p.tables e below (T8.setTop (mkF m 20 #[.val (.long q1), .second, .val (.ref b_2), .val (.int (6 : Int32)), .val (.int (1 : Int32)), .val (.ref t0)] [(.ref t1)])) _
      refine XS.astore X8.here hx rfl (hb hby d1_20) rfl rfl (l' := #[.val (.long q1), .second, .val (.ref b_2), .val (.int (6 : Int32)), .val (.int (1 : Int32)), .val (.ref t1)]) rfl ?_
      show Steps p.tables e below (T8.setTop (mkF m 22 #[.val (.long q1), .second, .val (.ref b_2), .val (.int (6 : Int32)), .val (.int (1 : Int32)), .val (.ref t1)] [])) _
      refine XS.aload X8.here hx rfl (hb hby d1_22) rfl rfl ?_
      show Steps p.tables e below (T8.setTop (mkF m 24 #[.val (.long q1), .second, .val (.ref b_2), .val (.int (6 : Int32)), .val (.int (1 : Int32)), .val (.ref t1)] [(.ref t1)])) _
      refine st13 _ ?_
      show Steps p.tables e below (T13.setTop (mkF m 27 #[.val (.long q1), .second, .val (.ref b_2), .val (.int (6 : Int32)), .val (.int (1 : Int32)), .val (.ref t1)] [(.int (2 : Int32))])) _
      refine XS.i2l X13.here hx rfl (hb hby d1_27) rfl ?_
      show Steps p.tables e below (T13.setTop (mkF m 28 #[.val (.long q1), .second, .val (.ref b_2), .val (.int (6 : Int32)), .val (.int (1 : Int32)), .val (.ref t1)] [(.long ((2 : Int32).toInt64))])) _
      rw [show ((2 : Int32).toInt64) = (2 : Int64) from by decide]
      show Steps p.tables e below (T13.setTop (mkF m 28 #[.val (.long q1), .second, .val (.ref b_2), .val (.int (6 : Int32)), .val (.int (1 : Int32)), .val (.ref t1)] [(.long (2 : Int64))])) _
      refine XS.lloadN X13.here hx rfl (hb hby d1_28) rfl  ?_
      show Steps p.tables e below (T13.setTop (mkF m 29 #[.val (.long q1), .second, .val (.ref b_2), .val (.int (6 : Int32)), .val (.int (1 : Int32)), .val (.ref t1)] [(.long q1), (.long (2 : Int64))])) _
      refine XS.lcmp X13.here hx rfl (hb hby d1_29) rfl ?_
      exact k)
    by_cases hc15 : (2 : Int64) = q1
    ·  -- yes
      obtain ⟨fs, hr, hrun, hended, hW, hsame⟩ := X13.leave (v := some (.ref t1)) (fun h => by rw [Bd.returns] at h; cases h)
      refine ⟨_, _, pre14 _ ?_, hrun, hended, _, _, rfl, ?_, ⟨_, rfl⟩, hW, hsame.mono (by decide) (by decide)⟩
      · show Steps p.tables e below (T13.setTop (mkF m 30 #[.val (.long q1), .second, .val (.ref b_2), .val (.int (6 : Int32)), .val (.int (1 : Int32)), .val (.ref t1)] [(.int (lcmpW (2 : Int64) q1))])) _
        refine XS.ifNo X13.here hx rfl (hb hby d1_30) rfl ((if0 _ _).trans (teq ((lw_eq _ _).mpr hc15)).2) ?_
        show Steps p.tables e below (T13.setTop (mkF m 33 #[.val (.long q1), .second, .val (.ref b_2), .val (.int (6 : Int32)), .val (.int (1 : Int32)), .val (.ref t1)] [])) _
        refine XS.aload X13.here hx rfl (hb hby d1_33) rfl rfl ?_
        show Steps p.tables e below (T13.setTop (mkF m 35 #[.val (.long q1), .second, .val (.ref b_2), .val (.int (6 : Int32)), .val (.int (1 : Int32)), .val (.ref t1)] [(.ref t1)])) _
        jvm_step X13.here [X13.here.top, hx, (hb hby d1_35), X13.method', Bd.returns, Value.isRef, FieldType.isReference]
        first | (intro acts; rw [hr _ acts rfl rfl rfl]) | rw [hr _ _ rfl rfl rfl]
        exact Steps.refl _
      · show Q1 Z q1 va kc t0 t1 t2 t3 t4 t5 h0 n0 _ T13.heap _
        rw [e13]
        exact ⟨(by unfold own_of; rw [if_neg (fun q => hc10 q.symm), if_pos hc15.symm]), N1, K4⟩
    ·  -- no
      obtain ⟨c16, Arc16, qc16, Sc16, Mc16, Hc16, Gc16⟩ := id f1_0
      have hinc16 : ¬ ((2 : Int32) < 0 ∨ c16.slots.size ≤ ((2 : Int32)).toNatClampNeg) := inb_of Sc16 ⟨by decide, by decide⟩
      have hatc16 : c16.slots[((2 : Int32)).toNatClampNeg]? = some (.ref t2) := Hc16.at hinc16 rfl
      have fa17 : Fld Z T1.heap t2 "com/example/docketline/docketline/lobster/EventType" "code" "I" (.int (3 : Int32)) := (C2.keep K1 nin0)
      obtain ⟨T18, X18, e18, st18⟩ := getF X13 hx hZ hown (host := "") (Or.inl (ow hw 27 rfl)) Via.refl e13 fa17 (g := (mkF m 24 #[.val (.long q1), .second, .val (.ref b_2), .val (.int (6 : Int32)), .val (.int (2 : Int32)), .val (.ref t2)] [(.ref t2)])) rfl rfl (hb hby d1_24)
      have pre19 : ∀ t, Steps p.tables e below (T18.setTop (mkF m 30 #[.val (.long q1), .second, .val (.ref b_2), .val (.int (6 : Int32)), .val (.int (2 : Int32)), .val (.ref t2)] [(.int (lcmpW (3 : Int64) q1))])) t → Steps p.tables e below (s₁.setTop (entryFrame m #[(.long q1)] 6)) t := fun t k => pre14 t (by
        show Steps p.tables e below (T13.setTop (mkF m 30 #[.val (.long q1), .second, .val (.ref b_2), .val (.int (6 : Int32)), .val (.int (1 : Int32)), .val (.ref t1)] [(.int (lcmpW (2 : Int64) q1))])) _
        refine XS.ifYes X13.here hx rfl (pc0 := 30) (pc' := 36) rfl (hb hby d1_30) rfl ((if0 _ _).trans (feq (fun q => hc15 ((lw_eq _ _).mp q))).2) (by decide) (by decide) ?_
        show Steps p.tables e below (T13.setTop (mkF m 36 #[.val (.long q1), .second, .val (.ref b_2), .val (.int (6 : Int32)), .val (.int (1 : Int32)), .val (.ref t1)] [])) _
        refine XS.iinc X13.here hx rfl (hb hby d1_36) rfl (l' := #[.val (.long q1), .second, .val (.ref b_2), .val (.int (6 : Int32)), .val (.int ((1 : Int32) + (1 : Int32))), .val (.ref t1)]) rfl ?_
        show Steps p.tables e below (T13.setTop (mkF m 39 #[.val (.long q1), .second, .val (.ref b_2), .val (.int (6 : Int32)), .val (.int ((1 : Int32) + (1 : Int32))), .val (.ref t1)] [])) _
        rw [show ((1 : Int32) + (1 : Int32)) = (2 : Int32) from by decide]
        show Steps p.tables e below (T13.setTop (mkF m 39 #[.val (.long q1), .second, .val (.ref b_2), .val (.int (6 : Int32)), .val (.int (2 : Int32)), .val (.ref t1)] [])) _
        refine XS.goto X13.here hx rfl (pc0 := 39) (pc' := 10) rfl (hb hby d1_39) (by decide) (by decide) ?_
        show Steps p.tables e below (T13.setTop (mkF m 10 #[.val (.long q1), .second, .val (.ref b_2), .val (.int (6 : Int32)), .val (.int (2 : Int32)), .val (.ref t1)] [])) _
        refine XS.iload X13.here hx rfl (hb hby d1_10) rfl  ?_
        show Steps p.tables e below (T13.setTop (mkF m 12 #[.val (.long q1), .second, .val (.ref b_2), .val (.int (6 : Int32)), .val (.int (2 : Int32)), .val (.ref t1)] [(.int (2 : Int32))])) _
        refine XS.iloadN X13.here hx rfl (hb hby d1_12) rfl  ?_
        show Steps p.tables e below (T13.setTop (mkF m 13 #[.val (.long q1), .second, .val (.ref b_2), .val (.int (6 : Int32)), .val (.int (2 : Int32)), .val (.ref t1)] [(.int (6 : Int32)), (.int (2 : Int32))])) _
        refine XS.icmpNo X13.here hx rfl (hb hby d1_13) rfl (tlt (by decide)).2.1 ?_
        show Steps p.tables e below (T13.setTop (mkF m 16 #[.val (.long q1), .second, .val (.ref b_2), .val (.int (6 : Int32)), .val (.int (2 : Int32)), .val (.ref t1)] [])) _
        refine XS.aloadN X13.here hx rfl (hb hby d1_16) rfl rfl ?_
        show Steps p.tables e below (T13.setTop (mkF m 17 #[.val (.long q1), .second, .val (.ref b_2), .val (.int (6 : Int32)), .val (.int (2 : Int32)), .val (.ref t1)] [(.ref b_2)])) _
        refine XS.iload X13.here hx rfl (hb hby d1_17) rfl  ?_
        show Steps p.tables e below (T13.setTop (mkF m 19 #[.val (.long q1), .second, .val (.ref b_2), .val (.int (6 : Int32)), .val (.int (2 : Int32)), .val (.ref t1)] [(.int (2 : Int32)), (.ref b_2)])) _
        refine X13.aaload hx (j := (2 : Int32)) (v := (.ref t2)) (by rw [e13]; exact Arc16.1) (State.isArrayOf_alike hZ.alike Arc16.2.1) rfl Arc16.2.2 hinc16 hatc16 (g := (mkF m 19 #[.val (.long q1), .second, .val (.ref b_2), .val (.int (6 : Int32)), .val (.int (2 : Int32)), .val (.ref t1)] [(.int (2 : Int32)), (.ref b_2)])) rfl rfl (hb hby d1_19) _ ?_
        show Steps p.tables e below (T13.setTop (mkF m 20 #[.val (.long q1), .second, .val (.ref b_2), .val (.int (6 : Int32)), .val (.int (2 : Int32)), .val (.ref t1)] [(.ref t2)])) _
        refine XS.astore X13.here hx rfl (hb hby d1_20) rfl rfl (l' := #[.val (.long q1), .second, .val (.ref b_2), .val (.int (6 : Int32)), .val (.int (2 : Int32)), .val (.ref t2)]) rfl ?_
        show Steps p.tables e below (T13.setTop (mkF m 22 #[.val (.long q1), .second, .val (.ref b_2), .val (.int (6 : Int32)), .val (.int (2 : Int32)), .val (.ref t2)] [])) _
        refine XS.aload X13.here hx rfl (hb hby d1_22) rfl rfl ?_
        show Steps p.tables e below (T13.setTop (mkF m 24 #[.val (.long q1), .second, .val (.ref b_2), .val (.int (6 : Int32)), .val (.int (2 : Int32)), .val (.ref t2)] [(.ref t2)])) _
        refine st18 _ ?_
        show Steps p.tables e below (T18.setTop (mkF m 27 #[.val (.long q1), .second, .val (.ref b_2), .val (.int (6 : Int32)), .val (.int (2 : Int32)), .val (.ref t2)] [(.int (3 : Int32))])) _
        refine XS.i2l X18.here hx rfl (hb hby d1_27) rfl ?_
        show Steps p.tables e below (T18.setTop (mkF m 28 #[.val (.long q1), .second, .val (.ref b_2), .val (.int (6 : Int32)), .val (.int (2 : Int32)), .val (.ref t2)] [(.long ((3 : Int32).toInt64))])) _
        rw [show ((3 : Int32).toInt64) = (3 : Int64) from by decide]
        show Steps p.tables e below (T18.setTop (mkF m 28 #[.val (.long q1), .second, .val (.ref b_2), .val (.int (6 : Int32)), .val (.int (2 : Int32)), .val (.ref t2)] [(.long (3 : Int64))])) _
        refine XS.lloadN X18.here hx rfl (hb hby d1_28) rfl  ?_
        show Steps p.tables e below (T18.setTop (mkF m 29 #[.val (.long q1), .second, .val (.ref b_2), .val (.int (6 : Int32)), .val (.int (2 : Int32)), .val (.ref t2)] [(.long q1), (.long (3 : Int64))])) _
        refine XS.lcmp X18.here hx rfl (hb hby d1_29) rfl ?_
        exact k)
      by_cases hc20 : (3 : Int64) = q1
      ·  -- yes
        obtain ⟨fs, hr, hrun, hended, hW, hsame⟩ := X18.leave (v := some (.ref t2)) (fun h => by rw [Bd.returns] at h; cases h)
        refine ⟨_, _, pre19 _ ?_, hrun, hended, _, _, rfl, ?_, ⟨_, rfl⟩, hW, hsame.mono (by decide) (by decide)⟩
        · show Steps p.tables e below (T18.setTop (mkF m 30 #[.val (.long q1), .second, .val (.ref b_2), .val (.int (6 : Int32)), .val (.int (2 : Int32)), .val (.ref t2)] [(.int (lcmpW (3 : Int64) q1))])) _
          refine XS.ifNo X18.here hx rfl (hb hby d1_30) rfl ((if0 _ _).trans (teq ((lw_eq _ _).mpr hc20)).2) ?_
          show Steps p.tables e below (T18.setTop (mkF m 33 #[.val (.long q1), .second, .val (.ref b_2), .val (.int (6 : Int32)), .val (.int (2 : Int32)), .val (.ref t2)] [])) _
          refine XS.aload X18.here hx rfl (hb hby d1_33) rfl rfl ?_
          show Steps p.tables e below (T18.setTop (mkF m 35 #[.val (.long q1), .second, .val (.ref b_2), .val (.int (6 : Int32)), .val (.int (2 : Int32)), .val (.ref t2)] [(.ref t2)])) _
          jvm_step X18.here [X18.here.top, hx, (hb hby d1_35), X18.method', Bd.returns, Value.isRef, FieldType.isReference]
          first | (intro acts; rw [hr _ acts rfl rfl rfl]) | rw [hr _ _ rfl rfl rfl]
          exact Steps.refl _
        · show Q1 Z q1 va kc t0 t1 t2 t3 t4 t5 h0 n0 _ T18.heap _
          rw [e18]
          exact ⟨(by unfold own_of; rw [if_neg (fun q => hc10 q.symm), if_neg (fun q => hc15 q.symm), if_pos hc20.symm]), N1, K4⟩
      ·  -- no
        obtain ⟨c21, Arc21, qc21, Sc21, Mc21, Hc21, Gc21⟩ := id f1_0
        have hinc21 : ¬ ((3 : Int32) < 0 ∨ c21.slots.size ≤ ((3 : Int32)).toNatClampNeg) := inb_of Sc21 ⟨by decide, by decide⟩
        have hatc21 : c21.slots[((3 : Int32)).toNatClampNeg]? = some (.ref t3) := Hc21.at hinc21 rfl
        have fa22 : Fld Z T1.heap t3 "com/example/docketline/docketline/lobster/EventType" "code" "I" (.int (4 : Int32)) := (C3.keep K1 nin0)
        obtain ⟨T23, X23, e23, st23⟩ := getF X18 hx hZ hown (host := "") (Or.inl (ow hw 27 rfl)) Via.refl e18 fa22 (g := (mkF m 24 #[.val (.long q1), .second, .val (.ref b_2), .val (.int (6 : Int32)), .val (.int (3 : Int32)), .val (.ref t3)] [(.ref t3)])) rfl rfl (hb hby d1_24)
        have pre24 : ∀ t, Steps p.tables e below (T23.setTop (mkF m 30 #[.val (.long q1), .second, .val (.ref b_2), .val (.int (6 : Int32)), .val (.int (3 : Int32)), .val (.ref t3)] [(.int (lcmpW (4 : Int64) q1))])) t → Steps p.tables e below (s₁.setTop (entryFrame m #[(.long q1)] 6)) t := fun t k => pre19 t (by
          show Steps p.tables e below (T18.setTop (mkF m 30 #[.val (.long q1), .second, .val (.ref b_2), .val (.int (6 : Int32)), .val (.int (2 : Int32)), .val (.ref t2)] [(.int (lcmpW (3 : Int64) q1))])) _
          refine XS.ifYes X18.here hx rfl (pc0 := 30) (pc' := 36) rfl (hb hby d1_30) rfl ((if0 _ _).trans (feq (fun q => hc20 ((lw_eq _ _).mp q))).2) (by decide) (by decide) ?_
          show Steps p.tables e below (T18.setTop (mkF m 36 #[.val (.long q1), .second, .val (.ref b_2), .val (.int (6 : Int32)), .val (.int (2 : Int32)), .val (.ref t2)] [])) _
          refine XS.iinc X18.here hx rfl (hb hby d1_36) rfl (l' := #[.val (.long q1), .second, .val (.ref b_2), .val (.int (6 : Int32)), .val (.int ((2 : Int32) + (1 : Int32))), .val (.ref t2)]) rfl ?_
          show Steps p.tables e below (T18.setTop (mkF m 39 #[.val (.long q1), .second, .val (.ref b_2), .val (.int (6 : Int32)), .val (.int ((2 : Int32) + (1 : Int32))), .val (.ref t2)] [])) _
          rw [show ((2 : Int32) + (1 : Int32)) = (3 : Int32) from by decide]
          show Steps p.tables e below (T18.setTop (mkF m 39 #[.val (.long q1), .second, .val (.ref b_2), .val (.int (6 : Int32)), .val (.int (3 : Int32)), .val (.ref t2)] [])) _
          refine XS.goto X18.here hx rfl (pc0 := 39) (pc' := 10) rfl (hb hby d1_39) (by decide) (by decide) ?_
          show Steps p.tables e below (T18.setTop (mkF m 10 #[.val (.long q1), .second, .val (.ref b_2), .val (.int (6 : Int32)), .val (.int (3 : Int32)), .val (.ref t2)] [])) _
          refine XS.iload X18.here hx rfl (hb hby d1_10) rfl  ?_
          show Steps p.tables e below (T18.setTop (mkF m 12 #[.val (.long q1), .second, .val (.ref b_2), .val (.int (6 : Int32)), .val (.int (3 : Int32)), .val (.ref t2)] [(.int (3 : Int32))])) _
          refine XS.iloadN X18.here hx rfl (hb hby d1_12) rfl  ?_
          show Steps p.tables e below (T18.setTop (mkF m 13 #[.val (.long q1), .second, .val (.ref b_2), .val (.int (6 : Int32)), .val (.int (3 : Int32)), .val (.ref t2)] [(.int (6 : Int32)), (.int (3 : Int32))])) _
          refine XS.icmpNo X18.here hx rfl (hb hby d1_13) rfl (tlt (by decide)).2.1 ?_
          show Steps p.tables e below (T18.setTop (mkF m 16 #[.val (.long q1), .second, .val (.ref b_2), .val (.int (6 : Int32)), .val (.int (3 : Int32)), .val (.ref t2)] [])) _
          refine XS.aloadN X18.here hx rfl (hb hby d1_16) rfl rfl ?_
          show Steps p.tables e below (T18.setTop (mkF m 17 #[.val (.long q1), .second, .val (.ref b_2), .val (.int (6 : Int32)), .val (.int (3 : Int32)), .val (.ref t2)] [(.ref b_2)])) _
          refine XS.iload X18.here hx rfl (hb hby d1_17) rfl  ?_
          show Steps p.tables e below (T18.setTop (mkF m 19 #[.val (.long q1), .second, .val (.ref b_2), .val (.int (6 : Int32)), .val (.int (3 : Int32)), .val (.ref t2)] [(.int (3 : Int32)), (.ref b_2)])) _
          refine X18.aaload hx (j := (3 : Int32)) (v := (.ref t3)) (by rw [e18]; exact Arc21.1) (State.isArrayOf_alike hZ.alike Arc21.2.1) rfl Arc21.2.2 hinc21 hatc21 (g := (mkF m 19 #[.val (.long q1), .second, .val (.ref b_2), .val (.int (6 : Int32)), .val (.int (3 : Int32)), .val (.ref t2)] [(.int (3 : Int32)), (.ref b_2)])) rfl rfl (hb hby d1_19) _ ?_
          show Steps p.tables e below (T18.setTop (mkF m 20 #[.val (.long q1), .second, .val (.ref b_2), .val (.int (6 : Int32)), .val (.int (3 : Int32)), .val (.ref t2)] [(.ref t3)])) _
          refine XS.astore X18.here hx rfl (hb hby d1_20) rfl rfl (l' := #[.val (.long q1), .second, .val (.ref b_2), .val (.int (6 : Int32)), .val (.int (3 : Int32)), .val (.ref t3)]) rfl ?_
          show Steps p.tables e below (T18.setTop (mkF m 22 #[.val (.long q1), .second, .val (.ref b_2), .val (.int (6 : Int32)), .val (.int (3 : Int32)), .val (.ref t3)] [])) _
          refine XS.aload X18.here hx rfl (hb hby d1_22) rfl rfl ?_
          show Steps p.tables e below (T18.setTop (mkF m 24 #[.val (.long q1), .second, .val (.ref b_2), .val (.int (6 : Int32)), .val (.int (3 : Int32)), .val (.ref t3)] [(.ref t3)])) _
          refine st23 _ ?_
          show Steps p.tables e below (T23.setTop (mkF m 27 #[.val (.long q1), .second, .val (.ref b_2), .val (.int (6 : Int32)), .val (.int (3 : Int32)), .val (.ref t3)] [(.int (4 : Int32))])) _
          refine XS.i2l X23.here hx rfl (hb hby d1_27) rfl ?_
          show Steps p.tables e below (T23.setTop (mkF m 28 #[.val (.long q1), .second, .val (.ref b_2), .val (.int (6 : Int32)), .val (.int (3 : Int32)), .val (.ref t3)] [(.long ((4 : Int32).toInt64))])) _
          rw [show ((4 : Int32).toInt64) = (4 : Int64) from by decide]
          show Steps p.tables e below (T23.setTop (mkF m 28 #[.val (.long q1), .second, .val (.ref b_2), .val (.int (6 : Int32)), .val (.int (3 : Int32)), .val (.ref t3)] [(.long (4 : Int64))])) _
          refine XS.lloadN X23.here hx rfl (hb hby d1_28) rfl  ?_
          show Steps p.tables e below (T23.setTop (mkF m 29 #[.val (.long q1), .second, .val (.ref b_2), .val (.int (6 : Int32)), .val (.int (3 : Int32)), .val (.ref t3)] [(.long q1), (.long (4 : Int64))])) _
          refine XS.lcmp X23.here hx rfl (hb hby d1_29) rfl ?_
          exact k)
        by_cases hc25 : (4 : Int64) = q1
        ·  -- yes
          obtain ⟨fs, hr, hrun, hended, hW, hsame⟩ := X23.leave (v := some (.ref t3)) (fun h => by rw [Bd.returns] at h; cases h)
          refine ⟨_, _, pre24 _ ?_, hrun, hended, _, _, rfl, ?_, ⟨_, rfl⟩, hW, hsame.mono (by decide) (by decide)⟩
          · show Steps p.tables e below (T23.setTop (mkF m 30 #[.val (.long q1), .second, .val (.ref b_2), .val (.int (6 : Int32)), .val (.int (3 : Int32)), .val (.ref t3)] [(.int (lcmpW (4 : Int64) q1))])) _
            refine XS.ifNo X23.here hx rfl (hb hby d1_30) rfl ((if0 _ _).trans (teq ((lw_eq _ _).mpr hc25)).2) ?_
            show Steps p.tables e below (T23.setTop (mkF m 33 #[.val (.long q1), .second, .val (.ref b_2), .val (.int (6 : Int32)), .val (.int (3 : Int32)), .val (.ref t3)] [])) _
            refine XS.aload X23.here hx rfl (hb hby d1_33) rfl rfl ?_
            show Steps p.tables e below (T23.setTop (mkF m 35 #[.val (.long q1), .second, .val (.ref b_2), .val (.int (6 : Int32)), .val (.int (3 : Int32)), .val (.ref t3)] [(.ref t3)])) _
            jvm_step X23.here [X23.here.top, hx, (hb hby d1_35), X23.method', Bd.returns, Value.isRef, FieldType.isReference]
            first | (intro acts; rw [hr _ acts rfl rfl rfl]) | rw [hr _ _ rfl rfl rfl]
            exact Steps.refl _
          · show Q1 Z q1 va kc t0 t1 t2 t3 t4 t5 h0 n0 _ T23.heap _
            rw [e23]
            exact ⟨(by unfold own_of; rw [if_neg (fun q => hc10 q.symm), if_neg (fun q => hc15 q.symm), if_neg (fun q => hc20 q.symm), if_pos hc25.symm]), N1, K4⟩
        ·  -- no
          obtain ⟨c26, Arc26, qc26, Sc26, Mc26, Hc26, Gc26⟩ := id f1_0
          have hinc26 : ¬ ((4 : Int32) < 0 ∨ c26.slots.size ≤ ((4 : Int32)).toNatClampNeg) := inb_of Sc26 ⟨by decide, by decide⟩
          have hatc26 : c26.slots[((4 : Int32)).toNatClampNeg]? = some (.ref t4) := Hc26.at hinc26 rfl
          have fa27 : Fld Z T1.heap t4 "com/example/docketline/docketline/lobster/EventType" "code" "I" (.int (5 : Int32)) := (C4.keep K1 nin0)
          obtain ⟨T28, X28, e28, st28⟩ := getF X23 hx hZ hown (host := "") (Or.inl (ow hw 27 rfl)) Via.refl e23 fa27 (g := (mkF m 24 #[.val (.long q1), .second, .val (.ref b_2), .val (.int (6 : Int32)), .val (.int (4 : Int32)), .val (.ref t4)] [(.ref t4)])) rfl rfl (hb hby d1_24)
          have pre29 : ∀ t, Steps p.tables e below (T28.setTop (mkF m 30 #[.val (.long q1), .second, .val (.ref b_2), .val (.int (6 : Int32)), .val (.int (4 : Int32)), .val (.ref t4)] [(.int (lcmpW (5 : Int64) q1))])) t → Steps p.tables e below (s₁.setTop (entryFrame m #[(.long q1)] 6)) t := fun t k => pre24 t (by
            show Steps p.tables e below (T23.setTop (mkF m 30 #[.val (.long q1), .second, .val (.ref b_2), .val (.int (6 : Int32)), .val (.int (3 : Int32)), .val (.ref t3)] [(.int (lcmpW (4 : Int64) q1))])) _
            refine XS.ifYes X23.here hx rfl (pc0 := 30) (pc' := 36) rfl (hb hby d1_30) rfl ((if0 _ _).trans (feq (fun q => hc25 ((lw_eq _ _).mp q))).2) (by decide) (by decide) ?_
            show Steps p.tables e below (T23.setTop (mkF m 36 #[.val (.long q1), .second, .val (.ref b_2), .val (.int (6 : Int32)), .val (.int (3 : Int32)), .val (.ref t3)] [])) _
            refine XS.iinc X23.here hx rfl (hb hby d1_36) rfl (l' := #[.val (.long q1), .second, .val (.ref b_2), .val (.int (6 : Int32)), .val (.int ((3 : Int32) + (1 : Int32))), .val (.ref t3)]) rfl ?_
            show Steps p.tables e below (T23.setTop (mkF m 39 #[.val (.long q1), .second, .val (.ref b_2), .val (.int (6 : Int32)), .val (.int ((3 : Int32) + (1 : Int32))), .val (.ref t3)] [])) _
            rw [show ((3 : Int32) + (1 : Int32)) = (4 : Int32) from by decide]
            show Steps p.tables e below (T23.setTop (mkF m 39 #[.val (.long q1), .second, .val (.ref b_2), .val (.int (6 : Int32)), .val (.int (4 : Int32)), .val (.ref t3)] [])) _
            refine XS.goto X23.here hx rfl (pc0 := 39) (pc' := 10) rfl (hb hby d1_39) (by decide) (by decide) ?_
            show Steps p.tables e below (T23.setTop (mkF m 10 #[.val (.long q1), .second, .val (.ref b_2), .val (.int (6 : Int32)), .val (.int (4 : Int32)), .val (.ref t3)] [])) _
            refine XS.iload X23.here hx rfl (hb hby d1_10) rfl  ?_
            show Steps p.tables e below (T23.setTop (mkF m 12 #[.val (.long q1), .second, .val (.ref b_2), .val (.int (6 : Int32)), .val (.int (4 : Int32)), .val (.ref t3)] [(.int (4 : Int32))])) _
            refine XS.iloadN X23.here hx rfl (hb hby d1_12) rfl  ?_
            show Steps p.tables e below (T23.setTop (mkF m 13 #[.val (.long q1), .second, .val (.ref b_2), .val (.int (6 : Int32)), .val (.int (4 : Int32)), .val (.ref t3)] [(.int (6 : Int32)), (.int (4 : Int32))])) _
            refine XS.icmpNo X23.here hx rfl (hb hby d1_13) rfl (tlt (by decide)).2.1 ?_
            show Steps p.tables e below (T23.setTop (mkF m 16 #[.val (.long q1), .second, .val (.ref b_2), .val (.int (6 : Int32)), .val (.int (4 : Int32)), .val (.ref t3)] [])) _
            refine XS.aloadN X23.here hx rfl (hb hby d1_16) rfl rfl ?_
            show Steps p.tables e below (T23.setTop (mkF m 17 #[.val (.long q1), .second, .val (.ref b_2), .val (.int (6 : Int32)), .val (.int (4 : Int32)), .val (.ref t3)] [(.ref b_2)])) _
            refine XS.iload X23.here hx rfl (hb hby d1_17) rfl  ?_
            show Steps p.tables e below (T23.setTop (mkF m 19 #[.val (.long q1), .second, .val (.ref b_2), .val (.int (6 : Int32)), .val (.int (4 : Int32)), .val (.ref t3)] [(.int (4 : Int32)), (.ref b_2)])) _
            refine X23.aaload hx (j := (4 : Int32)) (v := (.ref t4)) (by rw [e23]; exact Arc26.1) (State.isArrayOf_alike hZ.alike Arc26.2.1) rfl Arc26.2.2 hinc26 hatc26 (g := (mkF m 19 #[.val (.long q1), .second, .val (.ref b_2), .val (.int (6 : Int32)), .val (.int (4 : Int32)), .val (.ref t3)] [(.int (4 : Int32)), (.ref b_2)])) rfl rfl (hb hby d1_19) _ ?_
            show Steps p.tables e below (T23.setTop (mkF m 20 #[.val (.long q1), .second, .val (.ref b_2), .val (.int (6 : Int32)), .val (.int (4 : Int32)), .val (.ref t3)] [(.ref t4)])) _
            refine XS.astore X23.here hx rfl (hb hby d1_20) rfl rfl (l' := #[.val (.long q1), .second, .val (.ref b_2), .val (.int (6 : Int32)), .val (.int (4 : Int32)), .val (.ref t4)]) rfl ?_
            show Steps p.tables e below (T23.setTop (mkF m 22 #[.val (.long q1), .second, .val (.ref b_2), .val (.int (6 : Int32)), .val (.int (4 : Int32)), .val (.ref t4)] [])) _
            refine XS.aload X23.here hx rfl (hb hby d1_22) rfl rfl ?_
            show Steps p.tables e below (T23.setTop (mkF m 24 #[.val (.long q1), .second, .val (.ref b_2), .val (.int (6 : Int32)), .val (.int (4 : Int32)), .val (.ref t4)] [(.ref t4)])) _
            refine st28 _ ?_
            show Steps p.tables e below (T28.setTop (mkF m 27 #[.val (.long q1), .second, .val (.ref b_2), .val (.int (6 : Int32)), .val (.int (4 : Int32)), .val (.ref t4)] [(.int (5 : Int32))])) _
            refine XS.i2l X28.here hx rfl (hb hby d1_27) rfl ?_
            show Steps p.tables e below (T28.setTop (mkF m 28 #[.val (.long q1), .second, .val (.ref b_2), .val (.int (6 : Int32)), .val (.int (4 : Int32)), .val (.ref t4)] [(.long ((5 : Int32).toInt64))])) _
            rw [show ((5 : Int32).toInt64) = (5 : Int64) from by decide]
            show Steps p.tables e below (T28.setTop (mkF m 28 #[.val (.long q1), .second, .val (.ref b_2), .val (.int (6 : Int32)), .val (.int (4 : Int32)), .val (.ref t4)] [(.long (5 : Int64))])) _
            refine XS.lloadN X28.here hx rfl (hb hby d1_28) rfl  ?_
            show Steps p.tables e below (T28.setTop (mkF m 29 #[.val (.long q1), .second, .val (.ref b_2), .val (.int (6 : Int32)), .val (.int (4 : Int32)), .val (.ref t4)] [(.long q1), (.long (5 : Int64))])) _
            refine XS.lcmp X28.here hx rfl (hb hby d1_29) rfl ?_
            exact k)
          by_cases hc30 : (5 : Int64) = q1
          ·  -- yes
            obtain ⟨fs, hr, hrun, hended, hW, hsame⟩ := X28.leave (v := some (.ref t4)) (fun h => by rw [Bd.returns] at h; cases h)
            refine ⟨_, _, pre29 _ ?_, hrun, hended, _, _, rfl, ?_, ⟨_, rfl⟩, hW, hsame.mono (by decide) (by decide)⟩
            · show Steps p.tables e below (T28.setTop (mkF m 30 #[.val (.long q1), .second, .val (.ref b_2), .val (.int (6 : Int32)), .val (.int (4 : Int32)), .val (.ref t4)] [(.int (lcmpW (5 : Int64) q1))])) _
              refine XS.ifNo X28.here hx rfl (hb hby d1_30) rfl ((if0 _ _).trans (teq ((lw_eq _ _).mpr hc30)).2) ?_
              show Steps p.tables e below (T28.setTop (mkF m 33 #[.val (.long q1), .second, .val (.ref b_2), .val (.int (6 : Int32)), .val (.int (4 : Int32)), .val (.ref t4)] [])) _
              refine XS.aload X28.here hx rfl (hb hby d1_33) rfl rfl ?_
              show Steps p.tables e below (T28.setTop (mkF m 35 #[.val (.long q1), .second, .val (.ref b_2), .val (.int (6 : Int32)), .val (.int (4 : Int32)), .val (.ref t4)] [(.ref t4)])) _
              jvm_step X28.here [X28.here.top, hx, (hb hby d1_35), X28.method', Bd.returns, Value.isRef, FieldType.isReference]
              first | (intro acts; rw [hr _ acts rfl rfl rfl]) | rw [hr _ _ rfl rfl rfl]
              exact Steps.refl _
            · show Q1 Z q1 va kc t0 t1 t2 t3 t4 t5 h0 n0 _ T28.heap _
              rw [e28]
              exact ⟨(by unfold own_of; rw [if_neg (fun q => hc10 q.symm), if_neg (fun q => hc15 q.symm), if_neg (fun q => hc20 q.symm), if_neg (fun q => hc25 q.symm), if_pos hc30.symm]), N1, K4⟩
          ·  -- no
            obtain ⟨c31, Arc31, qc31, Sc31, Mc31, Hc31, Gc31⟩ := id f1_0
            have hinc31 : ¬ ((5 : Int32) < 0 ∨ c31.slots.size ≤ ((5 : Int32)).toNatClampNeg) := inb_of Sc31 ⟨by decide, by decide⟩
            have hatc31 : c31.slots[((5 : Int32)).toNatClampNeg]? = some (.ref t5) := Hc31.at hinc31 rfl
            have fa32 : Fld Z T1.heap t5 "com/example/docketline/docketline/lobster/EventType" "code" "I" (.int (7 : Int32)) := (C5.keep K1 nin0)
            obtain ⟨T33, X33, e33, st33⟩ := getF X28 hx hZ hown (host := "") (Or.inl (ow hw 27 rfl)) Via.refl e28 fa32 (g := (mkF m 24 #[.val (.long q1), .second, .val (.ref b_2), .val (.int (6 : Int32)), .val (.int (5 : Int32)), .val (.ref t5)] [(.ref t5)])) rfl rfl (hb hby d1_24)
            have pre34 : ∀ t, Steps p.tables e below (T33.setTop (mkF m 30 #[.val (.long q1), .second, .val (.ref b_2), .val (.int (6 : Int32)), .val (.int (5 : Int32)), .val (.ref t5)] [(.int (lcmpW (7 : Int64) q1))])) t → Steps p.tables e below (s₁.setTop (entryFrame m #[(.long q1)] 6)) t := fun t k => pre29 t (by
              show Steps p.tables e below (T28.setTop (mkF m 30 #[.val (.long q1), .second, .val (.ref b_2), .val (.int (6 : Int32)), .val (.int (4 : Int32)), .val (.ref t4)] [(.int (lcmpW (5 : Int64) q1))])) _
              refine XS.ifYes X28.here hx rfl (pc0 := 30) (pc' := 36) rfl (hb hby d1_30) rfl ((if0 _ _).trans (feq (fun q => hc30 ((lw_eq _ _).mp q))).2) (by decide) (by decide) ?_
              show Steps p.tables e below (T28.setTop (mkF m 36 #[.val (.long q1), .second, .val (.ref b_2), .val (.int (6 : Int32)), .val (.int (4 : Int32)), .val (.ref t4)] [])) _
              refine XS.iinc X28.here hx rfl (hb hby d1_36) rfl (l' := #[.val (.long q1), .second, .val (.ref b_2), .val (.int (6 : Int32)), .val (.int ((4 : Int32) + (1 : Int32))), .val (.ref t4)]) rfl ?_
              show Steps p.tables e below (T28.setTop (mkF m 39 #[.val (.long q1), .second, .val (.ref b_2), .val (.int (6 : Int32)), .val (.int ((4 : Int32) + (1 : Int32))), .val (.ref t4)] [])) _
              rw [show ((4 : Int32) + (1 : Int32)) = (5 : Int32) from by decide]
              show Steps p.tables e below (T28.setTop (mkF m 39 #[.val (.long q1), .second, .val (.ref b_2), .val (.int (6 : Int32)), .val (.int (5 : Int32)), .val (.ref t4)] [])) _
              refine XS.goto X28.here hx rfl (pc0 := 39) (pc' := 10) rfl (hb hby d1_39) (by decide) (by decide) ?_
              show Steps p.tables e below (T28.setTop (mkF m 10 #[.val (.long q1), .second, .val (.ref b_2), .val (.int (6 : Int32)), .val (.int (5 : Int32)), .val (.ref t4)] [])) _
              refine XS.iload X28.here hx rfl (hb hby d1_10) rfl  ?_
              show Steps p.tables e below (T28.setTop (mkF m 12 #[.val (.long q1), .second, .val (.ref b_2), .val (.int (6 : Int32)), .val (.int (5 : Int32)), .val (.ref t4)] [(.int (5 : Int32))])) _
              refine XS.iloadN X28.here hx rfl (hb hby d1_12) rfl  ?_
              show Steps p.tables e below (T28.setTop (mkF m 13 #[.val (.long q1), .second, .val (.ref b_2), .val (.int (6 : Int32)), .val (.int (5 : Int32)), .val (.ref t4)] [(.int (6 : Int32)), (.int (5 : Int32))])) _
              refine XS.icmpNo X28.here hx rfl (hb hby d1_13) rfl (tlt (by decide)).2.1 ?_
              show Steps p.tables e below (T28.setTop (mkF m 16 #[.val (.long q1), .second, .val (.ref b_2), .val (.int (6 : Int32)), .val (.int (5 : Int32)), .val (.ref t4)] [])) _
              refine XS.aloadN X28.here hx rfl (hb hby d1_16) rfl rfl ?_
              show Steps p.tables e below (T28.setTop (mkF m 17 #[.val (.long q1), .second, .val (.ref b_2), .val (.int (6 : Int32)), .val (.int (5 : Int32)), .val (.ref t4)] [(.ref b_2)])) _
              refine XS.iload X28.here hx rfl (hb hby d1_17) rfl  ?_
              show Steps p.tables e below (T28.setTop (mkF m 19 #[.val (.long q1), .second, .val (.ref b_2), .val (.int (6 : Int32)), .val (.int (5 : Int32)), .val (.ref t4)] [(.int (5 : Int32)), (.ref b_2)])) _
              refine X28.aaload hx (j := (5 : Int32)) (v := (.ref t5)) (by rw [e28]; exact Arc31.1) (State.isArrayOf_alike hZ.alike Arc31.2.1) rfl Arc31.2.2 hinc31 hatc31 (g := (mkF m 19 #[.val (.long q1), .second, .val (.ref b_2), .val (.int (6 : Int32)), .val (.int (5 : Int32)), .val (.ref t4)] [(.int (5 : Int32)), (.ref b_2)])) rfl rfl (hb hby d1_19) _ ?_
              show Steps p.tables e below (T28.setTop (mkF m 20 #[.val (.long q1), .second, .val (.ref b_2), .val (.int (6 : Int32)), .val (.int (5 : Int32)), .val (.ref t4)] [(.ref t5)])) _
              refine XS.astore X28.here hx rfl (hb hby d1_20) rfl rfl (l' := #[.val (.long q1), .second, .val (.ref b_2), .val (.int (6 : Int32)), .val (.int (5 : Int32)), .val (.ref t5)]) rfl ?_
              show Steps p.tables e below (T28.setTop (mkF m 22 #[.val (.long q1), .second, .val (.ref b_2), .val (.int (6 : Int32)), .val (.int (5 : Int32)), .val (.ref t5)] [])) _
              refine XS.aload X28.here hx rfl (hb hby d1_22) rfl rfl ?_
              show Steps p.tables e below (T28.setTop (mkF m 24 #[.val (.long q1), .second, .val (.ref b_2), .val (.int (6 : Int32)), .val (.int (5 : Int32)), .val (.ref t5)] [(.ref t5)])) _
              refine st33 _ ?_
              show Steps p.tables e below (T33.setTop (mkF m 27 #[.val (.long q1), .second, .val (.ref b_2), .val (.int (6 : Int32)), .val (.int (5 : Int32)), .val (.ref t5)] [(.int (7 : Int32))])) _
              refine XS.i2l X33.here hx rfl (hb hby d1_27) rfl ?_
              show Steps p.tables e below (T33.setTop (mkF m 28 #[.val (.long q1), .second, .val (.ref b_2), .val (.int (6 : Int32)), .val (.int (5 : Int32)), .val (.ref t5)] [(.long ((7 : Int32).toInt64))])) _
              rw [show ((7 : Int32).toInt64) = (7 : Int64) from by decide]
              show Steps p.tables e below (T33.setTop (mkF m 28 #[.val (.long q1), .second, .val (.ref b_2), .val (.int (6 : Int32)), .val (.int (5 : Int32)), .val (.ref t5)] [(.long (7 : Int64))])) _
              refine XS.lloadN X33.here hx rfl (hb hby d1_28) rfl  ?_
              show Steps p.tables e below (T33.setTop (mkF m 29 #[.val (.long q1), .second, .val (.ref b_2), .val (.int (6 : Int32)), .val (.int (5 : Int32)), .val (.ref t5)] [(.long q1), (.long (7 : Int64))])) _
              refine XS.lcmp X33.here hx rfl (hb hby d1_29) rfl ?_
              exact k)
            by_cases hc35 : (7 : Int64) = q1
            ·  -- yes
              obtain ⟨fs, hr, hrun, hended, hW, hsame⟩ := X33.leave (v := some (.ref t5)) (fun h => by rw [Bd.returns] at h; cases h)
              refine ⟨_, _, pre34 _ ?_, hrun, hended, _, _, rfl, ?_, ⟨_, rfl⟩, hW, hsame.mono (by decide) (by decide)⟩
              · show Steps p.tables e below (T33.setTop (mkF m 30 #[.val (.long q1), .second, .val (.ref b_2), .val (.int (6 : Int32)), .val (.int (5 : Int32)), .val (.ref t5)] [(.int (lcmpW (7 : Int64) q1))])) _
                refine XS.ifNo X33.here hx rfl (hb hby d1_30) rfl ((if0 _ _).trans (teq ((lw_eq _ _).mpr hc35)).2) ?_
                show Steps p.tables e below (T33.setTop (mkF m 33 #[.val (.long q1), .second, .val (.ref b_2), .val (.int (6 : Int32)), .val (.int (5 : Int32)), .val (.ref t5)] [])) _
                refine XS.aload X33.here hx rfl (hb hby d1_33) rfl rfl ?_
                show Steps p.tables e below (T33.setTop (mkF m 35 #[.val (.long q1), .second, .val (.ref b_2), .val (.int (6 : Int32)), .val (.int (5 : Int32)), .val (.ref t5)] [(.ref t5)])) _
                jvm_step X33.here [X33.here.top, hx, (hb hby d1_35), X33.method', Bd.returns, Value.isRef, FieldType.isReference]
                first | (intro acts; rw [hr _ acts rfl rfl rfl]) | rw [hr _ _ rfl rfl rfl]
                exact Steps.refl _
              · show Q1 Z q1 va kc t0 t1 t2 t3 t4 t5 h0 n0 _ T33.heap _
                rw [e33]
                exact ⟨(by unfold own_of; rw [if_neg (fun q => hc10 q.symm), if_neg (fun q => hc15 q.symm), if_neg (fun q => hc20 q.symm), if_neg (fun q => hc25 q.symm), if_neg (fun q => hc30 q.symm), if_pos hc35.symm]), N1, K4⟩
            ·  -- no
              obtain ⟨fs, hr, hrun, hended, hW, hsame⟩ := X33.leave (v := some .null) (fun h => by rw [Bd.returns] at h; cases h)
              refine ⟨_, _, pre34 _ ?_, hrun, hended, _, _, rfl, ?_, ⟨_, rfl⟩, hW, hsame.mono (by decide) (by decide)⟩
              · show Steps p.tables e below (T33.setTop (mkF m 30 #[.val (.long q1), .second, .val (.ref b_2), .val (.int (6 : Int32)), .val (.int (5 : Int32)), .val (.ref t5)] [(.int (lcmpW (7 : Int64) q1))])) _
                refine XS.ifYes X33.here hx rfl (pc0 := 30) (pc' := 36) rfl (hb hby d1_30) rfl ((if0 _ _).trans (feq (fun q => hc35 ((lw_eq _ _).mp q))).2) (by decide) (by decide) ?_
                show Steps p.tables e below (T33.setTop (mkF m 36 #[.val (.long q1), .second, .val (.ref b_2), .val (.int (6 : Int32)), .val (.int (5 : Int32)), .val (.ref t5)] [])) _
                refine XS.iinc X33.here hx rfl (hb hby d1_36) rfl (l' := #[.val (.long q1), .second, .val (.ref b_2), .val (.int (6 : Int32)), .val (.int ((5 : Int32) + (1 : Int32))), .val (.ref t5)]) rfl ?_
                show Steps p.tables e below (T33.setTop (mkF m 39 #[.val (.long q1), .second, .val (.ref b_2), .val (.int (6 : Int32)), .val (.int ((5 : Int32) + (1 : Int32))), .val (.ref t5)] [])) _
                rw [show ((5 : Int32) + (1 : Int32)) = (6 : Int32) from by decide]
                show Steps p.tables e below (T33.setTop (mkF m 39 #[.val (.long q1), .second, .val (.ref b_2), .val (.int (6 : Int32)), .val (.int (6 : Int32)), .val (.ref t5)] [])) _
                refine XS.goto X33.here hx rfl (pc0 := 39) (pc' := 10) rfl (hb hby d1_39) (by decide) (by decide) ?_
                show Steps p.tables e below (T33.setTop (mkF m 10 #[.val (.long q1), .second, .val (.ref b_2), .val (.int (6 : Int32)), .val (.int (6 : Int32)), .val (.ref t5)] [])) _
                refine XS.iload X33.here hx rfl (hb hby d1_10) rfl  ?_
                show Steps p.tables e below (T33.setTop (mkF m 12 #[.val (.long q1), .second, .val (.ref b_2), .val (.int (6 : Int32)), .val (.int (6 : Int32)), .val (.ref t5)] [(.int (6 : Int32))])) _
                refine XS.iloadN X33.here hx rfl (hb hby d1_12) rfl  ?_
                show Steps p.tables e below (T33.setTop (mkF m 13 #[.val (.long q1), .second, .val (.ref b_2), .val (.int (6 : Int32)), .val (.int (6 : Int32)), .val (.ref t5)] [(.int (6 : Int32)), (.int (6 : Int32))])) _
                refine XS.icmpYes X33.here hx rfl (pc0 := 13) (pc' := 42) rfl (hb hby d1_13) rfl (flt (by decide)).2.1 (by decide) (by decide) ?_
                show Steps p.tables e below (T33.setTop (mkF m 42 #[.val (.long q1), .second, .val (.ref b_2), .val (.int (6 : Int32)), .val (.int (6 : Int32)), .val (.ref t5)] [])) _
                refine XS.aconstNull X33.here hx rfl (hb hby d1_42) ?_
                show Steps p.tables e below (T33.setTop (mkF m 43 #[.val (.long q1), .second, .val (.ref b_2), .val (.int (6 : Int32)), .val (.int (6 : Int32)), .val (.ref t5)] [.null])) _
                jvm_step X33.here [X33.here.top, hx, (hb hby d1_43), X33.method', Bd.returns, Value.isRef, FieldType.isReference]
                first | (intro acts; rw [hr _ acts rfl rfl rfl]) | rw [hr _ _ rfl rfl rfl]
                exact Steps.refl _
              · show Q1 Z q1 va kc t0 t1 t2 t3 t4 t5 h0 n0 _ T33.heap _
                rw [e33]
                exact ⟨(by unfold own_of; rw [if_neg (fun q => hc10 q.symm), if_neg (fun q => hc15 q.symm), if_neg (fun q => hc20 q.symm), if_neg (fun q => hc25 q.symm), if_neg (fun q => hc30 q.symm), if_neg (fun q => hc35 q.symm)]), N1, K4⟩
theorem pn2 : plainName "com/example/docketline/docketline/lobster/EventTypeOfPinLaw" = true := by first | (simp [plainName, overriddenIn]; done) | decide +kernel
theorem d3_0 : decode method_2_code 0 = .ok (.lload_n 0, 1) := by decide +kernel
theorem d3_1 : decode method_2_code 1 = .ok (.lconst 1, 1) := by decide +kernel
theorem d3_2 : decode method_2_code 2 = .ok (.lcmp, 1) := by decide +kernel
theorem d3_3 : decode method_2_code 3 = .ok (.ifCond .ne 7, 3) := by decide +kernel
theorem d3_6 : decode method_2_code 6 = .ok (.getstatic 7, 3) := by decide +kernel
theorem d3_9 : decode method_2_code 9 = .ok (.areturn, 1) := by decide +kernel
theorem d3_10 : decode method_2_code 10 = .ok (.lload_n 0, 1) := by decide +kernel
theorem d3_11 : decode method_2_code 11 = .ok (.ldc2_w 13, 3) := by decide +kernel
theorem d3_14 : decode method_2_code 14 = .ok (.lcmp, 1) := by decide +kernel
theorem d3_15 : decode method_2_code 15 = .ok (.ifCond .ne 7, 3) := by decide +kernel
theorem d3_18 : decode method_2_code 18 = .ok (.getstatic 15, 3) := by decide +kernel
theorem d3_21 : decode method_2_code 21 = .ok (.areturn, 1) := by decide +kernel
theorem d3_22 : decode method_2_code 22 = .ok (.lload_n 0, 1) := by decide +kernel
theorem d3_23 : decode method_2_code 23 = .ok (.ldc2_w 18, 3) := by decide +kernel
theorem d3_26 : decode method_2_code 26 = .ok (.lcmp, 1) := by decide +kernel
theorem d3_27 : decode method_2_code 27 = .ok (.ifCond .ne 7, 3) := by decide +kernel
theorem d3_30 : decode method_2_code 30 = .ok (.getstatic 20, 3) := by decide +kernel
theorem d3_33 : decode method_2_code 33 = .ok (.areturn, 1) := by decide +kernel
theorem d3_34 : decode method_2_code 34 = .ok (.lload_n 0, 1) := by decide +kernel
theorem d3_35 : decode method_2_code 35 = .ok (.ldc2_w 23, 3) := by decide +kernel
theorem d3_38 : decode method_2_code 38 = .ok (.lcmp, 1) := by decide +kernel
theorem d3_39 : decode method_2_code 39 = .ok (.ifCond .ne 7, 3) := by decide +kernel
theorem d3_42 : decode method_2_code 42 = .ok (.getstatic 25, 3) := by decide +kernel
theorem d3_45 : decode method_2_code 45 = .ok (.areturn, 1) := by decide +kernel
theorem d3_46 : decode method_2_code 46 = .ok (.lload_n 0, 1) := by decide +kernel
theorem d3_47 : decode method_2_code 47 = .ok (.ldc2_w 28, 3) := by decide +kernel
theorem d3_50 : decode method_2_code 50 = .ok (.lcmp, 1) := by decide +kernel
theorem d3_51 : decode method_2_code 51 = .ok (.ifCond .ne 7, 3) := by decide +kernel
theorem d3_54 : decode method_2_code 54 = .ok (.getstatic 30, 3) := by decide +kernel
theorem d3_57 : decode method_2_code 57 = .ok (.areturn, 1) := by decide +kernel
theorem d3_58 : decode method_2_code 58 = .ok (.lload_n 0, 1) := by decide +kernel
theorem d3_59 : decode method_2_code 59 = .ok (.ldc2_w 33, 3) := by decide +kernel
theorem d3_62 : decode method_2_code 62 = .ok (.lcmp, 1) := by decide +kernel
theorem d3_63 : decode method_2_code 63 = .ok (.ifCond .ne 7, 3) := by decide +kernel
theorem d3_66 : decode method_2_code 66 = .ok (.getstatic 35, 3) := by decide +kernel
theorem d3_69 : decode method_2_code 69 = .ok (.areturn, 1) := by decide +kernel
theorem d3_70 : decode method_2_code 70 = .ok (.aconst_null, 1) := by decide +kernel
theorem d3_71 : decode method_2_code 71 = .ok (.areturn, 1) := by decide +kernel
theorem ef3 (m : MethodId) (q1 : Int64) : entryFrame m #[(.long q1)] 2 = mkF m 0 #[.val (.long q1), .second] [] := by first | (simp [entryFrame, mkF, argsToLocals, Value.category]; done) | rfl
def Q3 (Z : State) (q1 : Int64) (t0 : Addr) (t1 : Addr) (t2 : Addr) (t3 : Addr) (t4 : Addr) (t5 : Addr) (h0 : Heap) (n0 : Nat) (v : Option Value) (h : Heap) (L : List Loc) : Prop := v = some (own_of q1 t0 t1 t2 t3 t4 t5) ∧ Fr n0 L ∧ h = h0
set_option maxRecDepth 65536 in
set_option maxHeartbeats 40000000 in
theorem rm3 (l : Launch) (Z : State) (a0 : Array Value) (hw : ∀ d ∈ tables_1, d.before a0 Z = true) (ws : List Jvm.Cond) (q1 : Int64) (t0 : Addr) (t1 : Addr) (t2 : Addr) (t3 : Addr) (t4 : Addr) (t5 : Addr) (h0 : Heap) (n0 : Nat) (Z0 : n0 ≤ h0.size) (O0 : Old Z n0 h0) (S0 : Sta Z Z.heap "com/example/docketline/docketline/lobster/EventType" "ADD" "Lcom/example/docketline/docketline/lobster/EventType;" (.ref t0)) (S1 : Sta Z Z.heap "com/example/docketline/docketline/lobster/EventType" "PARTIAL_CANCEL" "Lcom/example/docketline/docketline/lobster/EventType;" (.ref t1)) (S2 : Sta Z Z.heap "com/example/docketline/docketline/lobster/EventType" "DELETE" "Lcom/example/docketline/docketline/lobster/EventType;" (.ref t2)) (S3 : Sta Z Z.heap "com/example/docketline/docketline/lobster/EventType" "EXECUTE_VISIBLE" "Lcom/example/docketline/docketline/lobster/EventType;" (.ref t3)) (S4 : Sta Z Z.heap "com/example/docketline/docketline/lobster/EventType" "EXECUTE_HIDDEN" "Lcom/example/docketline/docketline/lobster/EventType;" (.ref t4)) (S5 : Sta Z Z.heap "com/example/docketline/docketline/lobster/EventType" "HALT_MARKER" "Lcom/example/docketline/docketline/lobster/EventType;" (.ref t5)) :
    MetFree l (⟨"com/example/docketline/docketline/lobster/EventTypeOfPinLaw", "expected", "(J)Lcom/example/docketline/docketline/lobster/EventType;"⟩ : MethodName) (head1 (Jvm.Cond.code (⟨"com/example/docketline/docketline/lobster/EventTypeOfPinLaw", "expected", "(J)Lcom/example/docketline/docketline/lobster/EventType;"⟩ : MethodName) method_2_code 2 (some (.object "com/example/docketline/docketline/lobster/EventType")) :: ws) ({ frames := 0, cells := 0, slots := 0, locals := 0 } : Room)) (fun a U => a = #[(.long q1)] ∧ Z.Warmed39 U.vm ∧ U.heap = h0) (fun _ _ _ _ _ => True) (fun _ U o U' => ∃ v L, o = .returned v ∧ Q3 Z q1 t0 t1 t2 t3 t4 t5 h0 n0 v U'.heap L ∧ FrameEnd U o U' L ({ frames := 0, cells := 0, slots := 0, locals := 0 } : Room).cells ({ frames := 0, cells := 0, slots := 0, locals := 0 } : Room).slots) := by
  refine MetFree.of_bodySF (plainFor_of_name pn2) hisR ?_
  intro p e s m args below meth c s₁ Bd hml0 hP hK
  obtain ⟨rfl, hZ, hh⟩ := hP
  have hx := Bd.exec
  have hby := Bd.bytes
  have hml : c.maxLocals = 2 := hml0
  have hown : s.vm.findClass "com/example/docketline/docketline/lobster/EventTypeOfPinLaw" = some m.cls := findClass_of_methodNamed Bd.named
  have hnm := (name_of_methodNamed Bd.named Bd.method).1
  have X0 : Stand p l e ({ frames := 0, cells := 0, slots := 0, locals := 0 } : Room) s m #[(.long q1)] below meth c s₁ [] 0 0 := Stand.of_body Bd
  have e0 : s₁.heap = h0 := by rw [← hh, Bd.state]; rfl
  have N0 := Fr.nil n0
  have pre0 : ∀ t, Steps p.tables e below (s₁.setTop (mkF m 0 #[.val (.long q1), .second] [])) t → Steps p.tables e below (s₁.setTop (entryFrame m #[(.long q1)] 2)) t := fun t k => castTop (ef3 m q1) k
  have pre1 : ∀ t, Steps p.tables e below (s₁.setTop (mkF m 3 #[.val (.long q1), .second] [(.int (lcmpW q1 (1 : Int64)))])) t → Steps p.tables e below (s₁.setTop (entryFrame m #[(.long q1)] 2)) t := fun t k => pre0 t (by
    show Steps p.tables e below (s₁.setTop (mkF m 0 #[.val (.long q1), .second] [])) _
    refine XS.lloadN X0.here hx rfl (hb hby d3_0) rfl  ?_
    show Steps p.tables e below (s₁.setTop (mkF m 1 #[.val (.long q1), .second] [(.long q1)])) _
    refine XS.lconst X0.here hx rfl (hb hby d3_1) ?_
    show Steps p.tables e below (s₁.setTop (mkF m 2 #[.val (.long q1), .second] [(.long (1 : Int64)), (.long q1)])) _
    refine XS.lcmp X0.here hx rfl (hb hby d3_2) rfl ?_
    exact k)
  by_cases hc2 : q1 = (1 : Int64)
  ·  -- yes
    obtain ⟨T3, X3, e3, st3⟩ := getS2 X0 hx hZ hown (host := "") (Or.inl (ow hw 39 rfl)) Via.refl e0 (S0.ext O0.2) (g := (mkF m 6 #[.val (.long q1), .second] [])) rfl (hb hby d3_6)
    obtain ⟨fs, hr, hrun, hended, hW, hsame⟩ := X3.leave (v := some (.ref t0)) (fun h => by rw [Bd.returns] at h; cases h)
    refine ⟨_, _, pre1 _ ?_, hrun, hended, _, _, rfl, ?_, ⟨_, rfl⟩, hW, hsame.mono (by decide) (by decide)⟩
    · show Steps p.tables e below (s₁.setTop (mkF m 3 #[.val (.long q1), .second] [(.int (lcmpW q1 (1 : Int64)))])) _
      refine XS.ifNo X0.here hx rfl (hb hby d3_3) rfl ((if0 _ _).trans (teq ((lw_eq _ _).mpr hc2)).2) ?_
      show Steps p.tables e below (s₁.setTop (mkF m 6 #[.val (.long q1), .second] [])) _
      refine st3 _ ?_
      show Steps p.tables e below (T3.setTop (mkF m 9 #[.val (.long q1), .second] [(.ref t0)])) _
      jvm_step X3.here [X3.here.top, hx, (hb hby d3_9), X3.method', Bd.returns, Value.isRef, FieldType.isReference]
      first | (intro acts; rw [hr _ acts rfl rfl rfl]) | rw [hr _ _ rfl rfl rfl]
      exact Steps.refl _
    · show Q3 Z q1 t0 t1 t2 t3 t4 t5 h0 n0 _ T3.heap _
      rw [e3]
      exact ⟨(by unfold own_of; rw [if_pos hc2]), N0, rfl⟩
  ·  -- no
    have pre4 : ∀ t, Steps p.tables e below (s₁.setTop (mkF m 15 #[.val (.long q1), .second] [(.int (lcmpW q1 (2 : Int64)))])) t → Steps p.tables e below (s₁.setTop (entryFrame m #[(.long q1)] 2)) t := fun t k => pre1 t (by
      show Steps p.tables e below (s₁.setTop (mkF m 3 #[.val (.long q1), .second] [(.int (lcmpW q1 (1 : Int64)))])) _
      refine XS.ifYes X0.here hx rfl (pc0 := 3) (pc' := 10) rfl (hb hby d3_3) rfl ((if0 _ _).trans (feq (fun q => hc2 ((lw_eq _ _).mp q))).2) (by decide) (by decide) ?_
      show Steps p.tables e below (s₁.setTop (mkF m 10 #[.val (.long q1), .second] [])) _
      refine XS.lloadN X0.here hx rfl (hb hby d3_10) rfl  ?_
      show Steps p.tables e below (s₁.setTop (mkF m 11 #[.val (.long q1), .second] [(.long q1)])) _
      refine X0.ldc2Long hx hown (mvT hZ (ow hw 33 rfl)) (g := (mkF m 11 #[.val (.long q1), .second] [(.long q1)])) rfl (hb hby d3_11) _ ?_
      show Steps p.tables e below (s₁.setTop (mkF m 14 #[.val (.long q1), .second] [(.long (2 : Int64)), (.long q1)])) _
      refine XS.lcmp X0.here hx rfl (hb hby d3_14) rfl ?_
      exact k)
    by_cases hc5 : q1 = (2 : Int64)
    ·  -- yes
      obtain ⟨T6, X6, e6, st6⟩ := getS2 X0 hx hZ hown (host := "") (Or.inl (ow hw 38 rfl)) Via.refl e0 (S1.ext O0.2) (g := (mkF m 18 #[.val (.long q1), .second] [])) rfl (hb hby d3_18)
      obtain ⟨fs, hr, hrun, hended, hW, hsame⟩ := X6.leave (v := some (.ref t1)) (fun h => by rw [Bd.returns] at h; cases h)
      refine ⟨_, _, pre4 _ ?_, hrun, hended, _, _, rfl, ?_, ⟨_, rfl⟩, hW, hsame.mono (by decide) (by decide)⟩
      · show Steps p.tables e below (s₁.setTop (mkF m 15 #[.val (.long q1), .second] [(.int (lcmpW q1 (2 : Int64)))])) _
        refine XS.ifNo X0.here hx rfl (hb hby d3_15) rfl ((if0 _ _).trans (teq ((lw_eq _ _).mpr hc5)).2) ?_
        show Steps p.tables e below (s₁.setTop (mkF m 18 #[.val (.long q1), .second] [])) _
        refine st6 _ ?_
        show Steps p.tables e below (T6.setTop (mkF m 21 #[.val (.long q1), .second] [(.ref t1)])) _
        jvm_step X6.here [X6.here.top, hx, (hb hby d3_21), X6.method', Bd.returns, Value.isRef, FieldType.isReference]
        first | (intro acts; rw [hr _ acts rfl rfl rfl]) | rw [hr _ _ rfl rfl rfl]
        exact Steps.refl _
      · show Q3 Z q1 t0 t1 t2 t3 t4 t5 h0 n0 _ T6.heap _
        rw [e6]
        exact ⟨(by unfold own_of; rw [if_neg hc2, if_pos hc5]), N0, rfl⟩
    ·  -- no
      have pre7 : ∀ t, Steps p.tables e below (s₁.setTop (mkF m 27 #[.val (.long q1), .second] [(.int (lcmpW q1 (3 : Int64)))])) t → Steps p.tables e below (s₁.setTop (entryFrame m #[(.long q1)] 2)) t := fun t k => pre4 t (by
        show Steps p.tables e below (s₁.setTop (mkF m 15 #[.val (.long q1), .second] [(.int (lcmpW q1 (2 : Int64)))])) _
        refine XS.ifYes X0.here hx rfl (pc0 := 15) (pc' := 22) rfl (hb hby d3_15) rfl ((if0 _ _).trans (feq (fun q => hc5 ((lw_eq _ _).mp q))).2) (by decide) (by decide) ?_
        show Steps p.tables e below (s₁.setTop (mkF m 22 #[.val (.long q1), .second] [])) _
        refine XS.lloadN X0.here hx rfl (hb hby d3_22) rfl  ?_
        show Steps p.tables e below (s₁.setTop (mkF m 23 #[.val (.long q1), .second] [(.long q1)])) _
        refine X0.ldc2Long hx hown (mvT hZ (ow hw 34 rfl)) (g := (mkF m 23 #[.val (.long q1), .second] [(.long q1)])) rfl (hb hby d3_23) _ ?_
        show Steps p.tables e below (s₁.setTop (mkF m 26 #[.val (.long q1), .second] [(.long (3 : Int64)), (.long q1)])) _
        refine XS.lcmp X0.here hx rfl (hb hby d3_26) rfl ?_
        exact k)
      by_cases hc8 : q1 = (3 : Int64)
      ·  -- yes
        obtain ⟨T9, X9, e9, st9⟩ := getS2 X0 hx hZ hown (host := "") (Or.inl (ow hw 40 rfl)) Via.refl e0 (S2.ext O0.2) (g := (mkF m 30 #[.val (.long q1), .second] [])) rfl (hb hby d3_30)
        obtain ⟨fs, hr, hrun, hended, hW, hsame⟩ := X9.leave (v := some (.ref t2)) (fun h => by rw [Bd.returns] at h; cases h)
        refine ⟨_, _, pre7 _ ?_, hrun, hended, _, _, rfl, ?_, ⟨_, rfl⟩, hW, hsame.mono (by decide) (by decide)⟩
        · show Steps p.tables e below (s₁.setTop (mkF m 27 #[.val (.long q1), .second] [(.int (lcmpW q1 (3 : Int64)))])) _
          refine XS.ifNo X0.here hx rfl (hb hby d3_27) rfl ((if0 _ _).trans (teq ((lw_eq _ _).mpr hc8)).2) ?_
          show Steps p.tables e below (s₁.setTop (mkF m 30 #[.val (.long q1), .second] [])) _
          refine st9 _ ?_
          show Steps p.tables e below (T9.setTop (mkF m 33 #[.val (.long q1), .second] [(.ref t2)])) _
          jvm_step X9.here [X9.here.top, hx, (hb hby d3_33), X9.method', Bd.returns, Value.isRef, FieldType.isReference]
          first | (intro acts; rw [hr _ acts rfl rfl rfl]) | rw [hr _ _ rfl rfl rfl]
          exact Steps.refl _
        · show Q3 Z q1 t0 t1 t2 t3 t4 t5 h0 n0 _ T9.heap _
          rw [e9]
          exact ⟨(by unfold own_of; rw [if_neg hc2, if_neg hc5, if_pos hc8]), N0, rfl⟩
      ·  -- no
        have pre10 : ∀ t, Steps p.tables e below (s₁.setTop (mkF m 39 #[.val (.long q1), .second] [(.int (lcmpW q1 (4 : Int64)))])) t → Steps p.tables e below (s₁.setTop (entryFrame m #[(.long q1)] 2)) t := fun t k => pre7 t (by
          show Steps p.tables e below (s₁.setTop (mkF m 27 #[.val (.long q1), .second] [(.int (lcmpW q1 (3 : Int64)))])) _
          refine XS.ifYes X0.here hx rfl (pc0 := 27) (pc' := 34) rfl (hb hby d3_27) rfl ((if0 _ _).trans (feq (fun q => hc8 ((lw_eq _ _).mp q))).2) (by decide) (by decide) ?_
          show Steps p.tables e below (s₁.setTop (mkF m 34 #[.val (.long q1), .second] [])) _
          refine XS.lloadN X0.here hx rfl (hb hby d3_34) rfl  ?_
          show Steps p.tables e below (s₁.setTop (mkF m 35 #[.val (.long q1), .second] [(.long q1)])) _
          refine X0.ldc2Long hx hown (mvT hZ (ow hw 35 rfl)) (g := (mkF m 35 #[.val (.long q1), .second] [(.long q1)])) rfl (hb hby d3_35) _ ?_
          show Steps p.tables e below (s₁.setTop (mkF m 38 #[.val (.long q1), .second] [(.long (4 : Int64)), (.long q1)])) _
          refine XS.lcmp X0.here hx rfl (hb hby d3_38) rfl ?_
          exact k)
        by_cases hc11 : q1 = (4 : Int64)
        ·  -- yes
          obtain ⟨T12, X12, e12, st12⟩ := getS2 X0 hx hZ hown (host := "") (Or.inl (ow hw 41 rfl)) Via.refl e0 (S3.ext O0.2) (g := (mkF m 42 #[.val (.long q1), .second] [])) rfl (hb hby d3_42)
          obtain ⟨fs, hr, hrun, hended, hW, hsame⟩ := X12.leave (v := some (.ref t3)) (fun h => by rw [Bd.returns] at h; cases h)
          refine ⟨_, _, pre10 _ ?_, hrun, hended, _, _, rfl, ?_, ⟨_, rfl⟩, hW, hsame.mono (by decide) (by decide)⟩
          · show Steps p.tables e below (s₁.setTop (mkF m 39 #[.val (.long q1), .second] [(.int (lcmpW q1 (4 : Int64)))])) _
            refine XS.ifNo X0.here hx rfl (hb hby d3_39) rfl ((if0 _ _).trans (teq ((lw_eq _ _).mpr hc11)).2) ?_
            show Steps p.tables e below (s₁.setTop (mkF m 42 #[.val (.long q1), .second] [])) _
            refine st12 _ ?_
            show Steps p.tables e below (T12.setTop (mkF m 45 #[.val (.long q1), .second] [(.ref t3)])) _
            jvm_step X12.here [X12.here.top, hx, (hb hby d3_45), X12.method', Bd.returns, Value.isRef, FieldType.isReference]
            first | (intro acts; rw [hr _ acts rfl rfl rfl]) | rw [hr _ _ rfl rfl rfl]
            exact Steps.refl _
          · show Q3 Z q1 t0 t1 t2 t3 t4 t5 h0 n0 _ T12.heap _
            rw [e12]
            exact ⟨(by unfold own_of; rw [if_neg hc2, if_neg hc5, if_neg hc8, if_pos hc11]), N0, rfl⟩
        ·  -- no
          have pre13 : ∀ t, Steps p.tables e below (s₁.setTop (mkF m 51 #[.val (.long q1), .second] [(.int (lcmpW q1 (5 : Int64)))])) t → Steps p.tables e below (s₁.setTop (entryFrame m #[(.long q1)] 2)) t := fun t k => pre10 t (by
            show Steps p.tables e below (s₁.setTop (mkF m 39 #[.val (.long q1), .second] [(.int (lcmpW q1 (4 : Int64)))])) _
            refine XS.ifYes X0.here hx rfl (pc0 := 39) (pc' := 46) rfl (hb hby d3_39) rfl ((if0 _ _).trans (feq (fun q => hc11 ((lw_eq _ _).mp q))).2) (by decide) (by decide) ?_
            show Steps p.tables e below (s₁.setTop (mkF m 46 #[.val (.long q1), .second] [])) _
            refine XS.lloadN X0.here hx rfl (hb hby d3_46) rfl  ?_
            show Steps p.tables e below (s₁.setTop (mkF m 47 #[.val (.long q1), .second] [(.long q1)])) _
            refine X0.ldc2Long hx hown (mvT hZ (ow hw 36 rfl)) (g := (mkF m 47 #[.val (.long q1), .second] [(.long q1)])) rfl (hb hby d3_47) _ ?_
            show Steps p.tables e below (s₁.setTop (mkF m 50 #[.val (.long q1), .second] [(.long (5 : Int64)), (.long q1)])) _
            refine XS.lcmp X0.here hx rfl (hb hby d3_50) rfl ?_
            exact k)
          by_cases hc14 : q1 = (5 : Int64)
          ·  -- yes
            obtain ⟨T15, X15, e15, st15⟩ := getS2 X0 hx hZ hown (host := "") (Or.inl (ow hw 43 rfl)) Via.refl e0 (S4.ext O0.2) (g := (mkF m 54 #[.val (.long q1), .second] [])) rfl (hb hby d3_54)
            obtain ⟨fs, hr, hrun, hended, hW, hsame⟩ := X15.leave (v := some (.ref t4)) (fun h => by rw [Bd.returns] at h; cases h)
            refine ⟨_, _, pre13 _ ?_, hrun, hended, _, _, rfl, ?_, ⟨_, rfl⟩, hW, hsame.mono (by decide) (by decide)⟩
            · show Steps p.tables e below (s₁.setTop (mkF m 51 #[.val (.long q1), .second] [(.int (lcmpW q1 (5 : Int64)))])) _
              refine XS.ifNo X0.here hx rfl (hb hby d3_51) rfl ((if0 _ _).trans (teq ((lw_eq _ _).mpr hc14)).2) ?_
              show Steps p.tables e below (s₁.setTop (mkF m 54 #[.val (.long q1), .second] [])) _
              refine st15 _ ?_
              show Steps p.tables e below (T15.setTop (mkF m 57 #[.val (.long q1), .second] [(.ref t4)])) _
              jvm_step X15.here [X15.here.top, hx, (hb hby d3_57), X15.method', Bd.returns, Value.isRef, FieldType.isReference]
              first | (intro acts; rw [hr _ acts rfl rfl rfl]) | rw [hr _ _ rfl rfl rfl]
              exact Steps.refl _
            · show Q3 Z q1 t0 t1 t2 t3 t4 t5 h0 n0 _ T15.heap _
              rw [e15]
              exact ⟨(by unfold own_of; rw [if_neg hc2, if_neg hc5, if_neg hc8, if_neg hc11, if_pos hc14]), N0, rfl⟩
          ·  -- no
            have pre16 : ∀ t, Steps p.tables e below (s₁.setTop (mkF m 63 #[.val (.long q1), .second] [(.int (lcmpW q1 (7 : Int64)))])) t → Steps p.tables e below (s₁.setTop (entryFrame m #[(.long q1)] 2)) t := fun t k => pre13 t (by
              show Steps p.tables e below (s₁.setTop (mkF m 51 #[.val (.long q1), .second] [(.int (lcmpW q1 (5 : Int64)))])) _
              refine XS.ifYes X0.here hx rfl (pc0 := 51) (pc' := 58) rfl (hb hby d3_51) rfl ((if0 _ _).trans (feq (fun q => hc14 ((lw_eq _ _).mp q))).2) (by decide) (by decide) ?_
              show Steps p.tables e below (s₁.setTop (mkF m 58 #[.val (.long q1), .second] [])) _
              refine XS.lloadN X0.here hx rfl (hb hby d3_58) rfl  ?_
              show Steps p.tables e below (s₁.setTop (mkF m 59 #[.val (.long q1), .second] [(.long q1)])) _
              refine X0.ldc2Long hx hown (mvT hZ (ow hw 37 rfl)) (g := (mkF m 59 #[.val (.long q1), .second] [(.long q1)])) rfl (hb hby d3_59) _ ?_
              show Steps p.tables e below (s₁.setTop (mkF m 62 #[.val (.long q1), .second] [(.long (7 : Int64)), (.long q1)])) _
              refine XS.lcmp X0.here hx rfl (hb hby d3_62) rfl ?_
              exact k)
            by_cases hc17 : q1 = (7 : Int64)
            ·  -- yes
              obtain ⟨T18, X18, e18, st18⟩ := getS2 X0 hx hZ hown (host := "") (Or.inl (ow hw 42 rfl)) Via.refl e0 (S5.ext O0.2) (g := (mkF m 66 #[.val (.long q1), .second] [])) rfl (hb hby d3_66)
              obtain ⟨fs, hr, hrun, hended, hW, hsame⟩ := X18.leave (v := some (.ref t5)) (fun h => by rw [Bd.returns] at h; cases h)
              refine ⟨_, _, pre16 _ ?_, hrun, hended, _, _, rfl, ?_, ⟨_, rfl⟩, hW, hsame.mono (by decide) (by decide)⟩
              · show Steps p.tables e below (s₁.setTop (mkF m 63 #[.val (.long q1), .second] [(.int (lcmpW q1 (7 : Int64)))])) _
                refine XS.ifNo X0.here hx rfl (hb hby d3_63) rfl ((if0 _ _).trans (teq ((lw_eq _ _).mpr hc17)).2) ?_
                show Steps p.tables e below (s₁.setTop (mkF m 66 #[.val (.long q1), .second] [])) _
                refine st18 _ ?_
                show Steps p.tables e below (T18.setTop (mkF m 69 #[.val (.long q1), .second] [(.ref t5)])) _
                jvm_step X18.here [X18.here.top, hx, (hb hby d3_69), X18.method', Bd.returns, Value.isRef, FieldType.isReference]
                first | (intro acts; rw [hr _ acts rfl rfl rfl]) | rw [hr _ _ rfl rfl rfl]
                exact Steps.refl _
              · show Q3 Z q1 t0 t1 t2 t3 t4 t5 h0 n0 _ T18.heap _
                rw [e18]
                exact ⟨(by unfold own_of; rw [if_neg hc2, if_neg hc5, if_neg hc8, if_neg hc11, if_neg hc14, if_pos hc17]), N0, rfl⟩
            ·  -- no
              obtain ⟨fs, hr, hrun, hended, hW, hsame⟩ := X0.leave (v := some .null) (fun h => by rw [Bd.returns] at h; cases h)
              refine ⟨_, _, pre16 _ ?_, hrun, hended, _, _, rfl, ?_, ⟨_, rfl⟩, hW, hsame.mono (by decide) (by decide)⟩
              · show Steps p.tables e below (s₁.setTop (mkF m 63 #[.val (.long q1), .second] [(.int (lcmpW q1 (7 : Int64)))])) _
                refine XS.ifYes X0.here hx rfl (pc0 := 63) (pc' := 70) rfl (hb hby d3_63) rfl ((if0 _ _).trans (feq (fun q => hc17 ((lw_eq _ _).mp q))).2) (by decide) (by decide) ?_
                show Steps p.tables e below (s₁.setTop (mkF m 70 #[.val (.long q1), .second] [])) _
                refine XS.aconstNull X0.here hx rfl (hb hby d3_70) ?_
                show Steps p.tables e below (s₁.setTop (mkF m 71 #[.val (.long q1), .second] [.null])) _
                jvm_step X0.here [X0.here.top, hx, (hb hby d3_71), X0.method', Bd.returns, Value.isRef, FieldType.isReference]
                first | (intro acts; rw [hr _ acts rfl rfl rfl]) | rw [hr _ _ rfl rfl rfl]
                exact Steps.refl _
              · show Q3 Z q1 t0 t1 t2 t3 t4 t5 h0 n0 _ s₁.heap _
                rw [e0]
                exact ⟨(by unfold own_of; rw [if_neg hc2, if_neg hc5, if_neg hc8, if_neg hc11, if_neg hc14, if_neg hc17]), N0, rfl⟩
theorem pd3 : parseMethodDescriptor "(J)Lcom/example/docketline/docketline/lobster/EventType;" = some ⟨[.long], some (.object "com/example/docketline/docketline/lobster/EventType")⟩ := by decide +kernel
theorem ef0 (m : MethodId) (q0 : Int64) (p1 : Int32) : entryFrame m #[(.long q0), (.int p1)] maxLocals = mkF m 0 #[.val (.long q0), .second, .val (.int p1), .unset, .unset, .unset, .unset, .unset] [] := by first | (simp [entryFrame, mkF, argsToLocals, Value.category, maxLocals]; done) | rfl
def Q0 (Z : State) (q0 : Int64) (p1 : Int32) (va : Addr) (kc : ClassId) (t0 : Addr) (t1 : Addr) (t2 : Addr) (t3 : Addr) (t4 : Addr) (t5 : Addr) (h0 : Heap) (n0 : Nat) (v : Option Value) (h : Heap) (L : List Loc) : Prop := v = some (.int (1 : Int32)) ∧ Fr n0 L
set_option maxRecDepth 65536 in
set_option maxHeartbeats 40000000 in
theorem rm0 (l : Launch) (Z : State) (a0 : Array Value) (hw : ∀ d ∈ tables_1, d.before a0 Z = true) (ws : List Jvm.Cond) (q0 : Int64) (p1 : Int32) (va : Addr) (kc : ClassId) (t0 : Addr) (t1 : Addr) (t2 : Addr) (t3 : Addr) (t4 : Addr) (t5 : Addr) (h0 : Heap) (n0 : Nat) (Z0 : n0 ≤ h0.size) (Sv : Sta Z Z.heap "com/example/docketline/docketline/lobster/EventType" "$VALUES" "[Lcom/example/docketline/docketline/lobster/EventType;" (.ref va)) (O0 : Old Z n0 h0) (V0 : Arv Z h0 va kc (.object "com/example/docketline/docketline/lobster/EventType") (6 : Int32) [(.ref t0), (.ref t1), (.ref t2), (.ref t3), (.ref t4), (.ref t5)] .null) (E0 : Exa Z h0 va "[Lcom/example/docketline/docketline/lobster/EventType;") (C0 : Fld Z h0 t0 "com/example/docketline/docketline/lobster/EventType" "code" "I" (.int (1 : Int32))) (C1 : Fld Z h0 t1 "com/example/docketline/docketline/lobster/EventType" "code" "I" (.int (2 : Int32))) (C2 : Fld Z h0 t2 "com/example/docketline/docketline/lobster/EventType" "code" "I" (.int (3 : Int32))) (C3 : Fld Z h0 t3 "com/example/docketline/docketline/lobster/EventType" "code" "I" (.int (4 : Int32))) (C4 : Fld Z h0 t4 "com/example/docketline/docketline/lobster/EventType" "code" "I" (.int (5 : Int32))) (C5 : Fld Z h0 t5 "com/example/docketline/docketline/lobster/EventType" "code" "I" (.int (7 : Int32))) (S0 : Sta Z Z.heap "com/example/docketline/docketline/lobster/EventType" "ADD" "Lcom/example/docketline/docketline/lobster/EventType;" (.ref t0)) (S1 : Sta Z Z.heap "com/example/docketline/docketline/lobster/EventType" "PARTIAL_CANCEL" "Lcom/example/docketline/docketline/lobster/EventType;" (.ref t1)) (S2 : Sta Z Z.heap "com/example/docketline/docketline/lobster/EventType" "DELETE" "Lcom/example/docketline/docketline/lobster/EventType;" (.ref t2)) (S3 : Sta Z Z.heap "com/example/docketline/docketline/lobster/EventType" "EXECUTE_VISIBLE" "Lcom/example/docketline/docketline/lobster/EventType;" (.ref t3)) (S4 : Sta Z Z.heap "com/example/docketline/docketline/lobster/EventType" "EXECUTE_HIDDEN" "Lcom/example/docketline/docketline/lobster/EventType;" (.ref t4)) (S5 : Sta Z Z.heap "com/example/docketline/docketline/lobster/EventType" "HALT_MARKER" "Lcom/example/docketline/docketline/lobster/EventType;" (.ref t5)) :
    MetFree l x (head1 (Jvm.Cond.code x code maxLocals ret :: ws) room_1) (fun a U => a = #[(.long q0), (.int p1)] ∧ Z.Warmed39 U.vm ∧ U.heap = h0) (fun _ _ _ _ _ => True) (fun _ U o U' => ∃ v L, o = .returned v ∧ Q0 Z q0 p1 va kc t0 t1 t2 t3 t4 t5 h0 n0 v U'.heap L ∧ FrameEnd U o U' L room_1.cells room_1.slots) := by
  refine MetFree.of_bodySF (plainFor_of_name pn2) hisR ?_
  intro p e s m args below meth c s₁ Bd hml0 hP hK
  obtain ⟨rfl, hZ, hh⟩ := hP
  have hx := Bd.exec
  have hby := Bd.bytes
  have hml : c.maxLocals = 8 := hml0
  have hown : s.vm.findClass "com/example/docketline/docketline/lobster/EventTypeOfPinLaw" = some m.cls := findClass_of_methodNamed Bd.named
  have hnm := (name_of_methodNamed Bd.named Bd.method).1
  have X0 : Stand p l e room_1 s m #[(.long q0), (.int p1)] below meth c s₁ [] 0 0 := Stand.of_body Bd
  have e0 : s₁.heap = h0 := by rw [← hh, Bd.state]; rfl
  have N0 := Fr.nil n0
  have pre0 : ∀ t, Steps p.tables e below (s₁.setTop (mkF m 0 #[.val (.long q0), .second, .val (.int p1), .unset, .unset, .unset, .unset, .unset] [])) t → Steps p.tables e below (s₁.setTop (entryFrame m #[(.long q0), (.int p1)] maxLocals)) t := fun t k => castTop (ef0 m q0 p1) k
  have pre1 : ∀ t, Steps p.tables e below (s₁.setTop (mkF m 16 #[.val (.long q0), .second, .val (.int p1), .val (.int ((((p1.toUInt32 >>> ((2 : Int32) &&& 31).toUInt32).toInt32) &&& (15 : Int32)) - (4 : Int32))), .val (.int (p1 &&& (3 : Int32))), .unset, .unset, .unset] [(.int (p1 &&& (3 : Int32)))])) t → Steps p.tables e below (s₁.setTop (entryFrame m #[(.long q0), (.int p1)] maxLocals)) t := fun t k => pre0 t (by
    show Steps p.tables e below (s₁.setTop (mkF m 0 #[.val (.long q0), .second, .val (.int p1), .unset, .unset, .unset, .unset, .unset] [])) _
    refine XS.iloadN X0.here hx rfl (hb hby at_0) rfl  ?_
    show Steps p.tables e below (s₁.setTop (mkF m 1 #[.val (.long q0), .second, .val (.int p1), .unset, .unset, .unset, .unset, .unset] [(.int p1)])) _
    refine XS.iconst X0.here hx rfl (hb hby at_1) ?_
    show Steps p.tables e below (s₁.setTop (mkF m 2 #[.val (.long q0), .second, .val (.int p1), .unset, .unset, .unset, .unset, .unset] [(.int (2 : Int32)), (.int p1)])) _
    refine XS.iushr X0.here hx rfl (hb hby at_2) rfl ?_
    show Steps p.tables e below (s₁.setTop (mkF m 3 #[.val (.long q0), .second, .val (.int p1), .unset, .unset, .unset, .unset, .unset] [(.int ((p1.toUInt32 >>> ((2 : Int32) &&& 31).toUInt32).toInt32))])) _
    refine XS.bipush X0.here hx rfl (hb hby at_3) ?_
    show Steps p.tables e below (s₁.setTop (mkF m 5 #[.val (.long q0), .second, .val (.int p1), .unset, .unset, .unset, .unset, .unset] [(.int (15 : Int32)), (.int ((p1.toUInt32 >>> ((2 : Int32) &&& 31).toUInt32).toInt32))])) _
    refine XS.iand X0.here hx rfl (hb hby at_5) rfl ?_
    show Steps p.tables e below (s₁.setTop (mkF m 6 #[.val (.long q0), .second, .val (.int p1), .unset, .unset, .unset, .unset, .unset] [(.int (((p1.toUInt32 >>> ((2 : Int32) &&& 31).toUInt32).toInt32) &&& (15 : Int32)))])) _
    refine XS.iconst X0.here hx rfl (hb hby at_6) ?_
    show Steps p.tables e below (s₁.setTop (mkF m 7 #[.val (.long q0), .second, .val (.int p1), .unset, .unset, .unset, .unset, .unset] [(.int (4 : Int32)), (.int (((p1.toUInt32 >>> ((2 : Int32) &&& 31).toUInt32).toInt32) &&& (15 : Int32)))])) _
    refine XS.isub X0.here hx rfl (hb hby at_7) rfl ?_
    show Steps p.tables e below (s₁.setTop (mkF m 8 #[.val (.long q0), .second, .val (.int p1), .unset, .unset, .unset, .unset, .unset] [(.int ((((p1.toUInt32 >>> ((2 : Int32) &&& 31).toUInt32).toInt32) &&& (15 : Int32)) - (4 : Int32)))])) _
    refine XS.istoreN X0.here hx rfl (hb hby at_8) rfl (l' := #[.val (.long q0), .second, .val (.int p1), .val (.int ((((p1.toUInt32 >>> ((2 : Int32) &&& 31).toUInt32).toInt32) &&& (15 : Int32)) - (4 : Int32))), .unset, .unset, .unset, .unset]) rfl ?_
    show Steps p.tables e below (s₁.setTop (mkF m 9 #[.val (.long q0), .second, .val (.int p1), .val (.int ((((p1.toUInt32 >>> ((2 : Int32) &&& 31).toUInt32).toInt32) &&& (15 : Int32)) - (4 : Int32))), .unset, .unset, .unset, .unset] [])) _
    refine XS.iloadN X0.here hx rfl (hb hby at_9) rfl  ?_
    show Steps p.tables e below (s₁.setTop (mkF m 10 #[.val (.long q0), .second, .val (.int p1), .val (.int ((((p1.toUInt32 >>> ((2 : Int32) &&& 31).toUInt32).toInt32) &&& (15 : Int32)) - (4 : Int32))), .unset, .unset, .unset, .unset] [(.int p1)])) _
    refine XS.iconst X0.here hx rfl (hb hby at_10) ?_
    show Steps p.tables e below (s₁.setTop (mkF m 11 #[.val (.long q0), .second, .val (.int p1), .val (.int ((((p1.toUInt32 >>> ((2 : Int32) &&& 31).toUInt32).toInt32) &&& (15 : Int32)) - (4 : Int32))), .unset, .unset, .unset, .unset] [(.int (3 : Int32)), (.int p1)])) _
    refine XS.iand X0.here hx rfl (hb hby at_11) rfl ?_
    show Steps p.tables e below (s₁.setTop (mkF m 12 #[.val (.long q0), .second, .val (.int p1), .val (.int ((((p1.toUInt32 >>> ((2 : Int32) &&& 31).toUInt32).toInt32) &&& (15 : Int32)) - (4 : Int32))), .unset, .unset, .unset, .unset] [(.int (p1 &&& (3 : Int32)))])) _
    refine XS.istore X0.here hx rfl (hb hby at_12) rfl (l' := #[.val (.long q0), .second, .val (.int p1), .val (.int ((((p1.toUInt32 >>> ((2 : Int32) &&& 31).toUInt32).toInt32) &&& (15 : Int32)) - (4 : Int32))), .val (.int (p1 &&& (3 : Int32))), .unset, .unset, .unset]) rfl ?_
    show Steps p.tables e below (s₁.setTop (mkF m 14 #[.val (.long q0), .second, .val (.int p1), .val (.int ((((p1.toUInt32 >>> ((2 : Int32) &&& 31).toUInt32).toInt32) &&& (15 : Int32)) - (4 : Int32))), .val (.int (p1 &&& (3 : Int32))), .unset, .unset, .unset] [])) _
    refine XS.iload X0.here hx rfl (hb hby at_14) rfl  ?_
    exact k)
  have pre5 : ∀ t, Steps p.tables e below (s₁.setTop (mkF m 67 #[.val (.long q0), .second, .val (.int p1), .val (.int ((((p1.toUInt32 >>> ((2 : Int32) &&& 31).toUInt32).toInt32) &&& (15 : Int32)) - (4 : Int32))), .val (.int (p1 &&& (3 : Int32))), .val (.long (if (p1 &&& (3 : Int32)) = (0 : Int32) then q0 else (if (p1 &&& (3 : Int32)) = (1 : Int32) then (((((p1.toUInt32 >>> ((2 : Int32) &&& 31).toUInt32).toInt32) &&& (15 : Int32)) - (4 : Int32)).toInt64) else (if (p1 &&& (3 : Int32)) = (2 : Int32) then ((q0 &&& (-4294967296 : Int64)) ||| ((((((p1.toUInt32 >>> ((2 : Int32) &&& 31).toUInt32).toInt32) &&& (15 : Int32)) - (4 : Int32)).toInt64) &&& (4294967295 : Int64))) else (q0 + (((((p1.toUInt32 >>> ((2 : Int32) &&& 31).toUInt32).toInt32) &&& (15 : Int32)) - (4 : Int32)).toInt64)))))), .second, .unset] [])) t → Steps p.tables e below (s₁.setTop (entryFrame m #[(.long q0), (.int p1)] maxLocals)) t := fun t k => pre1 t (by
    by_cases hc2 : (p1 &&& (3 : Int32)) = (0 : Int32)
    ·  -- yes
      show Steps p.tables e below (s₁.setTop (mkF m 16 #[.val (.long q0), .second, .val (.int p1), .val (.int ((((p1.toUInt32 >>> ((2 : Int32) &&& 31).toUInt32).toInt32) &&& (15 : Int32)) - (4 : Int32))), .val (.int (p1 &&& (3 : Int32))), .unset, .unset, .unset] [(.int (p1 &&& (3 : Int32)))])) _
      refine XS.ifNo X0.here hx rfl (hb hby at_16) rfl ((if0 _ _).trans (teq hc2).2) ?_
      show Steps p.tables e below (s₁.setTop (mkF m 19 #[.val (.long q0), .second, .val (.int p1), .val (.int ((((p1.toUInt32 >>> ((2 : Int32) &&& 31).toUInt32).toInt32) &&& (15 : Int32)) - (4 : Int32))), .val (.int (p1 &&& (3 : Int32))), .unset, .unset, .unset] [])) _
      refine XS.lloadN X0.here hx rfl (hb hby at_19) rfl  ?_
      show Steps p.tables e below (s₁.setTop (mkF m 20 #[.val (.long q0), .second, .val (.int p1), .val (.int ((((p1.toUInt32 >>> ((2 : Int32) &&& 31).toUInt32).toInt32) &&& (15 : Int32)) - (4 : Int32))), .val (.int (p1 &&& (3 : Int32))), .unset, .unset, .unset] [(.long q0)])) _
      refine XS.lstore X0.here hx rfl (hb hby at_20) rfl (l' := #[.val (.long q0), .second, .val (.int p1), .val (.int ((((p1.toUInt32 >>> ((2 : Int32) &&& 31).toUInt32).toInt32) &&& (15 : Int32)) - (4 : Int32))), .val (.int (p1 &&& (3 : Int32))), .val (.long q0), .second, .unset]) rfl ?_
      show Steps p.tables e below (s₁.setTop (mkF m 22 #[.val (.long q0), .second, .val (.int p1), .val (.int ((((p1.toUInt32 >>> ((2 : Int32) &&& 31).toUInt32).toInt32) &&& (15 : Int32)) - (4 : Int32))), .val (.int (p1 &&& (3 : Int32))), .val (.long q0), .second, .unset] [])) _
      refine XS.goto X0.here hx rfl (pc0 := 22) (pc' := 67) rfl (hb hby at_22) (by decide) (by decide) ?_
      have ek : (if (p1 &&& (3 : Int32)) = (0 : Int32) then q0 else (if (p1 &&& (3 : Int32)) = (1 : Int32) then (((((p1.toUInt32 >>> ((2 : Int32) &&& 31).toUInt32).toInt32) &&& (15 : Int32)) - (4 : Int32)).toInt64) else (if (p1 &&& (3 : Int32)) = (2 : Int32) then ((q0 &&& (-4294967296 : Int64)) ||| ((((((p1.toUInt32 >>> ((2 : Int32) &&& 31).toUInt32).toInt32) &&& (15 : Int32)) - (4 : Int32)).toInt64) &&& (4294967295 : Int64))) else (q0 + (((((p1.toUInt32 >>> ((2 : Int32) &&& 31).toUInt32).toInt32) &&& (15 : Int32)) - (4 : Int32)).toInt64))))) = q0 := by first | (simp only [own_b, eq_true hc2, and_true, true_and, and_false, false_and, or_true, true_or, or_false, false_or, not_true_eq_false, not_false_eq_true, if_true, if_false, reduceIte]; done) | (simp [own_b, hc2]; done)
      rw [ek] at k
      exact k
    ·  -- no
      show Steps p.tables e below (s₁.setTop (mkF m 16 #[.val (.long q0), .second, .val (.int p1), .val (.int ((((p1.toUInt32 >>> ((2 : Int32) &&& 31).toUInt32).toInt32) &&& (15 : Int32)) - (4 : Int32))), .val (.int (p1 &&& (3 : Int32))), .unset, .unset, .unset] [(.int (p1 &&& (3 : Int32)))])) _
      refine XS.ifYes X0.here hx rfl (pc0 := 16) (pc' := 25) rfl (hb hby at_16) rfl ((if0 _ _).trans (feq hc2).2) (by decide) (by decide) ?_
      show Steps p.tables e below (s₁.setTop (mkF m 25 #[.val (.long q0), .second, .val (.int p1), .val (.int ((((p1.toUInt32 >>> ((2 : Int32) &&& 31).toUInt32).toInt32) &&& (15 : Int32)) - (4 : Int32))), .val (.int (p1 &&& (3 : Int32))), .unset, .unset, .unset] [])) _
      refine XS.iload X0.here hx rfl (hb hby at_25) rfl  ?_
      show Steps p.tables e below (s₁.setTop (mkF m 27 #[.val (.long q0), .second, .val (.int p1), .val (.int ((((p1.toUInt32 >>> ((2 : Int32) &&& 31).toUInt32).toInt32) &&& (15 : Int32)) - (4 : Int32))), .val (.int (p1 &&& (3 : Int32))), .unset, .unset, .unset] [(.int (p1 &&& (3 : Int32)))])) _
      refine XS.iconst X0.here hx rfl (hb hby at_27) ?_
      by_cases hc3 : (p1 &&& (3 : Int32)) = (1 : Int32)
      ·  -- yes
        show Steps p.tables e below (s₁.setTop (mkF m 28 #[.val (.long q0), .second, .val (.int p1), .val (.int ((((p1.toUInt32 >>> ((2 : Int32) &&& 31).toUInt32).toInt32) &&& (15 : Int32)) - (4 : Int32))), .val (.int (p1 &&& (3 : Int32))), .unset, .unset, .unset] [(.int (1 : Int32)), (.int (p1 &&& (3 : Int32)))])) _
        refine XS.icmpNo X0.here hx rfl (hb hby at_28) rfl (teq hc3).2 ?_
        show Steps p.tables e below (s₁.setTop (mkF m 31 #[.val (.long q0), .second, .val (.int p1), .val (.int ((((p1.toUInt32 >>> ((2 : Int32) &&& 31).toUInt32).toInt32) &&& (15 : Int32)) - (4 : Int32))), .val (.int (p1 &&& (3 : Int32))), .unset, .unset, .unset] [])) _
        refine XS.iloadN X0.here hx rfl (hb hby at_31) rfl  ?_
        show Steps p.tables e below (s₁.setTop (mkF m 32 #[.val (.long q0), .second, .val (.int p1), .val (.int ((((p1.toUInt32 >>> ((2 : Int32) &&& 31).toUInt32).toInt32) &&& (15 : Int32)) - (4 : Int32))), .val (.int (p1 &&& (3 : Int32))), .unset, .unset, .unset] [(.int ((((p1.toUInt32 >>> ((2 : Int32) &&& 31).toUInt32).toInt32) &&& (15 : Int32)) - (4 : Int32)))])) _
        refine XS.i2l X0.here hx rfl (hb hby at_32) rfl ?_
        show Steps p.tables e below (s₁.setTop (mkF m 33 #[.val (.long q0), .second, .val (.int p1), .val (.int ((((p1.toUInt32 >>> ((2 : Int32) &&& 31).toUInt32).toInt32) &&& (15 : Int32)) - (4 : Int32))), .val (.int (p1 &&& (3 : Int32))), .unset, .unset, .unset] [(.long (((((p1.toUInt32 >>> ((2 : Int32) &&& 31).toUInt32).toInt32) &&& (15 : Int32)) - (4 : Int32)).toInt64))])) _
        refine XS.lstore X0.here hx rfl (hb hby at_33) rfl (l' := #[.val (.long q0), .second, .val (.int p1), .val (.int ((((p1.toUInt32 >>> ((2 : Int32) &&& 31).toUInt32).toInt32) &&& (15 : Int32)) - (4 : Int32))), .val (.int (p1 &&& (3 : Int32))), .val (.long (((((p1.toUInt32 >>> ((2 : Int32) &&& 31).toUInt32).toInt32) &&& (15 : Int32)) - (4 : Int32)).toInt64)), .second, .unset]) rfl ?_
        show Steps p.tables e below (s₁.setTop (mkF m 35 #[.val (.long q0), .second, .val (.int p1), .val (.int ((((p1.toUInt32 >>> ((2 : Int32) &&& 31).toUInt32).toInt32) &&& (15 : Int32)) - (4 : Int32))), .val (.int (p1 &&& (3 : Int32))), .val (.long (((((p1.toUInt32 >>> ((2 : Int32) &&& 31).toUInt32).toInt32) &&& (15 : Int32)) - (4 : Int32)).toInt64)), .second, .unset] [])) _
        refine XS.goto X0.here hx rfl (pc0 := 35) (pc' := 67) rfl (hb hby at_35) (by decide) (by decide) ?_
        have ek : (if (p1 &&& (3 : Int32)) = (0 : Int32) then q0 else (if (p1 &&& (3 : Int32)) = (1 : Int32) then (((((p1.toUInt32 >>> ((2 : Int32) &&& 31).toUInt32).toInt32) &&& (15 : Int32)) - (4 : Int32)).toInt64) else (if (p1 &&& (3 : Int32)) = (2 : Int32) then ((q0 &&& (-4294967296 : Int64)) ||| ((((((p1.toUInt32 >>> ((2 : Int32) &&& 31).toUInt32).toInt32) &&& (15 : Int32)) - (4 : Int32)).toInt64) &&& (4294967295 : Int64))) else (q0 + (((((p1.toUInt32 >>> ((2 : Int32) &&& 31).toUInt32).toInt32) &&& (15 : Int32)) - (4 : Int32)).toInt64))))) = (((((p1.toUInt32 >>> ((2 : Int32) &&& 31).toUInt32).toInt32) &&& (15 : Int32)) - (4 : Int32)).toInt64) := by first | (simp only [own_b, eq_false hc2, eq_true hc3, and_true, true_and, and_false, false_and, or_true, true_or, or_false, false_or, not_true_eq_false, not_false_eq_true, if_true, if_false, reduceIte]; done) | (simp [own_b, hc2, hc3]; done)
        rw [ek] at k
        exact k
      ·  -- no
        show Steps p.tables e below (s₁.setTop (mkF m 28 #[.val (.long q0), .second, .val (.int p1), .val (.int ((((p1.toUInt32 >>> ((2 : Int32) &&& 31).toUInt32).toInt32) &&& (15 : Int32)) - (4 : Int32))), .val (.int (p1 &&& (3 : Int32))), .unset, .unset, .unset] [(.int (1 : Int32)), (.int (p1 &&& (3 : Int32)))])) _
        refine XS.icmpYes X0.here hx rfl (pc0 := 28) (pc' := 38) rfl (hb hby at_28) rfl (feq hc3).2 (by decide) (by decide) ?_
        show Steps p.tables e below (s₁.setTop (mkF m 38 #[.val (.long q0), .second, .val (.int p1), .val (.int ((((p1.toUInt32 >>> ((2 : Int32) &&& 31).toUInt32).toInt32) &&& (15 : Int32)) - (4 : Int32))), .val (.int (p1 &&& (3 : Int32))), .unset, .unset, .unset] [])) _
        refine XS.iload X0.here hx rfl (hb hby at_38) rfl  ?_
        show Steps p.tables e below (s₁.setTop (mkF m 40 #[.val (.long q0), .second, .val (.int p1), .val (.int ((((p1.toUInt32 >>> ((2 : Int32) &&& 31).toUInt32).toInt32) &&& (15 : Int32)) - (4 : Int32))), .val (.int (p1 &&& (3 : Int32))), .unset, .unset, .unset] [(.int (p1 &&& (3 : Int32)))])) _
        refine XS.iconst X0.here hx rfl (hb hby at_40) ?_
        by_cases hc4 : (p1 &&& (3 : Int32)) = (2 : Int32)
        ·  -- yes
          show Steps p.tables e below (s₁.setTop (mkF m 41 #[.val (.long q0), .second, .val (.int p1), .val (.int ((((p1.toUInt32 >>> ((2 : Int32) &&& 31).toUInt32).toInt32) &&& (15 : Int32)) - (4 : Int32))), .val (.int (p1 &&& (3 : Int32))), .unset, .unset, .unset] [(.int (2 : Int32)), (.int (p1 &&& (3 : Int32)))])) _
          refine XS.icmpNo X0.here hx rfl (hb hby at_41) rfl (teq hc4).2 ?_
          show Steps p.tables e below (s₁.setTop (mkF m 44 #[.val (.long q0), .second, .val (.int p1), .val (.int ((((p1.toUInt32 >>> ((2 : Int32) &&& 31).toUInt32).toInt32) &&& (15 : Int32)) - (4 : Int32))), .val (.int (p1 &&& (3 : Int32))), .unset, .unset, .unset] [])) _
          refine XS.lloadN X0.here hx rfl (hb hby at_44) rfl  ?_
          show Steps p.tables e below (s₁.setTop (mkF m 45 #[.val (.long q0), .second, .val (.int p1), .val (.int ((((p1.toUInt32 >>> ((2 : Int32) &&& 31).toUInt32).toInt32) &&& (15 : Int32)) - (4 : Int32))), .val (.int (p1 &&& (3 : Int32))), .unset, .unset, .unset] [(.long q0)])) _
          refine X0.ldc2Long hx hown (mvT hZ (ow hw 0 rfl)) (g := (mkF m 45 #[.val (.long q0), .second, .val (.int p1), .val (.int ((((p1.toUInt32 >>> ((2 : Int32) &&& 31).toUInt32).toInt32) &&& (15 : Int32)) - (4 : Int32))), .val (.int (p1 &&& (3 : Int32))), .unset, .unset, .unset] [(.long q0)])) rfl (hb hby at_45) _ ?_
          show Steps p.tables e below (s₁.setTop (mkF m 48 #[.val (.long q0), .second, .val (.int p1), .val (.int ((((p1.toUInt32 >>> ((2 : Int32) &&& 31).toUInt32).toInt32) &&& (15 : Int32)) - (4 : Int32))), .val (.int (p1 &&& (3 : Int32))), .unset, .unset, .unset] [(.long (-4294967296 : Int64)), (.long q0)])) _
          refine XS.land X0.here hx rfl (hb hby at_48) rfl ?_
          show Steps p.tables e below (s₁.setTop (mkF m 49 #[.val (.long q0), .second, .val (.int p1), .val (.int ((((p1.toUInt32 >>> ((2 : Int32) &&& 31).toUInt32).toInt32) &&& (15 : Int32)) - (4 : Int32))), .val (.int (p1 &&& (3 : Int32))), .unset, .unset, .unset] [(.long (q0 &&& (-4294967296 : Int64)))])) _
          refine XS.iloadN X0.here hx rfl (hb hby at_49) rfl  ?_
          show Steps p.tables e below (s₁.setTop (mkF m 50 #[.val (.long q0), .second, .val (.int p1), .val (.int ((((p1.toUInt32 >>> ((2 : Int32) &&& 31).toUInt32).toInt32) &&& (15 : Int32)) - (4 : Int32))), .val (.int (p1 &&& (3 : Int32))), .unset, .unset, .unset] [(.int ((((p1.toUInt32 >>> ((2 : Int32) &&& 31).toUInt32).toInt32) &&& (15 : Int32)) - (4 : Int32))), (.long (q0 &&& (-4294967296 : Int64)))])) _
          refine XS.i2l X0.here hx rfl (hb hby at_50) rfl ?_
          show Steps p.tables e below (s₁.setTop (mkF m 51 #[.val (.long q0), .second, .val (.int p1), .val (.int ((((p1.toUInt32 >>> ((2 : Int32) &&& 31).toUInt32).toInt32) &&& (15 : Int32)) - (4 : Int32))), .val (.int (p1 &&& (3 : Int32))), .unset, .unset, .unset] [(.long (((((p1.toUInt32 >>> ((2 : Int32) &&& 31).toUInt32).toInt32) &&& (15 : Int32)) - (4 : Int32)).toInt64)), (.long (q0 &&& (-4294967296 : Int64)))])) _
          refine X0.ldc2Long hx hown (mvT hZ (ow hw 1 rfl)) (g := (mkF m 51 #[.val (.long q0), .second, .val (.int p1), .val (.int ((((p1.toUInt32 >>> ((2 : Int32) &&& 31).toUInt32).toInt32) &&& (15 : Int32)) - (4 : Int32))), .val (.int (p1 &&& (3 : Int32))), .unset, .unset, .unset] [(.long (((((p1.toUInt32 >>> ((2 : Int32) &&& 31).toUInt32).toInt32) &&& (15 : Int32)) - (4 : Int32)).toInt64)), (.long (q0 &&& (-4294967296 : Int64)))])) rfl (hb hby at_51) _ ?_
          show Steps p.tables e below (s₁.setTop (mkF m 54 #[.val (.long q0), .second, .val (.int p1), .val (.int ((((p1.toUInt32 >>> ((2 : Int32) &&& 31).toUInt32).toInt32) &&& (15 : Int32)) - (4 : Int32))), .val (.int (p1 &&& (3 : Int32))), .unset, .unset, .unset] [(.long (4294967295 : Int64)), (.long (((((p1.toUInt32 >>> ((2 : Int32) &&& 31).toUInt32).toInt32) &&& (15 : Int32)) - (4 : Int32)).toInt64)), (.long (q0 &&& (-4294967296 : Int64)))])) _
          refine XS.land X0.here hx rfl (hb hby at_54) rfl ?_
          show Steps p.tables e below (s₁.setTop (mkF m 55 #[.val (.long q0), .second, .val (.int p1), .val (.int ((((p1.toUInt32 >>> ((2 : Int32) &&& 31).toUInt32).toInt32) &&& (15 : Int32)) - (4 : Int32))), .val (.int (p1 &&& (3 : Int32))), .unset, .unset, .unset] [(.long ((((((p1.toUInt32 >>> ((2 : Int32) &&& 31).toUInt32).toInt32) &&& (15 : Int32)) - (4 : Int32)).toInt64) &&& (4294967295 : Int64))), (.long (q0 &&& (-4294967296 : Int64)))])) _
          refine XS.lor X0.here hx rfl (hb hby at_55) rfl ?_
          show Steps p.tables e below (s₁.setTop (mkF m 56 #[.val (.long q0), .second, .val (.int p1), .val (.int ((((p1.toUInt32 >>> ((2 : Int32) &&& 31).toUInt32).toInt32) &&& (15 : Int32)) - (4 : Int32))), .val (.int (p1 &&& (3 : Int32))), .unset, .unset, .unset] [(.long ((q0 &&& (-4294967296 : Int64)) ||| ((((((p1.toUInt32 >>> ((2 : Int32) &&& 31).toUInt32).toInt32) &&& (15 : Int32)) - (4 : Int32)).toInt64) &&& (4294967295 : Int64))))])) _
          refine XS.lstore X0.here hx rfl (hb hby at_56) rfl (l' := #[.val (.long q0), .second, .val (.int p1), .val (.int ((((p1.toUInt32 >>> ((2 : Int32) &&& 31).toUInt32).toInt32) &&& (15 : Int32)) - (4 : Int32))), .val (.int (p1 &&& (3 : Int32))), .val (.long ((q0 &&& (-4294967296 : Int64)) ||| ((((((p1.toUInt32 >>> ((2 : Int32) &&& 31).toUInt32).toInt32) &&& (15 : Int32)) - (4 : Int32)).toInt64) &&& (4294967295 : Int64)))), .second, .unset]) rfl ?_
          show Steps p.tables e below (s₁.setTop (mkF m 58 #[.val (.long q0), .second, .val (.int p1), .val (.int ((((p1.toUInt32 >>> ((2 : Int32) &&& 31).toUInt32).toInt32) &&& (15 : Int32)) - (4 : Int32))), .val (.int (p1 &&& (3 : Int32))), .val (.long ((q0 &&& (-4294967296 : Int64)) ||| ((((((p1.toUInt32 >>> ((2 : Int32) &&& 31).toUInt32).toInt32) &&& (15 : Int32)) - (4 : Int32)).toInt64) &&& (4294967295 : Int64)))), .second, .unset] [])) _
          refine XS.goto X0.here hx rfl (pc0 := 58) (pc' := 67) rfl (hb hby at_58) (by decide) (by decide) ?_
          have ek : (if (p1 &&& (3 : Int32)) = (0 : Int32) then q0 else (if (p1 &&& (3 : Int32)) = (1 : Int32) then (((((p1.toUInt32 >>> ((2 : Int32) &&& 31).toUInt32).toInt32) &&& (15 : Int32)) - (4 : Int32)).toInt64) else (if (p1 &&& (3 : Int32)) = (2 : Int32) then ((q0 &&& (-4294967296 : Int64)) ||| ((((((p1.toUInt32 >>> ((2 : Int32) &&& 31).toUInt32).toInt32) &&& (15 : Int32)) - (4 : Int32)).toInt64) &&& (4294967295 : Int64))) else (q0 + (((((p1.toUInt32 >>> ((2 : Int32) &&& 31).toUInt32).toInt32) &&& (15 : Int32)) - (4 : Int32)).toInt64))))) = ((q0 &&& (-4294967296 : Int64)) ||| ((((((p1.toUInt32 >>> ((2 : Int32) &&& 31).toUInt32).toInt32) &&& (15 : Int32)) - (4 : Int32)).toInt64) &&& (4294967295 : Int64))) := by first | (simp only [own_b, eq_false hc2, eq_false hc3, eq_true hc4, and_true, true_and, and_false, false_and, or_true, true_or, or_false, false_or, not_true_eq_false, not_false_eq_true, if_true, if_false, reduceIte]; done) | (simp [own_b, hc2, hc3, hc4]; done)
          rw [ek] at k
          exact k
        ·  -- no
          show Steps p.tables e below (s₁.setTop (mkF m 41 #[.val (.long q0), .second, .val (.int p1), .val (.int ((((p1.toUInt32 >>> ((2 : Int32) &&& 31).toUInt32).toInt32) &&& (15 : Int32)) - (4 : Int32))), .val (.int (p1 &&& (3 : Int32))), .unset, .unset, .unset] [(.int (2 : Int32)), (.int (p1 &&& (3 : Int32)))])) _
          refine XS.icmpYes X0.here hx rfl (pc0 := 41) (pc' := 61) rfl (hb hby at_41) rfl (feq hc4).2 (by decide) (by decide) ?_
          show Steps p.tables e below (s₁.setTop (mkF m 61 #[.val (.long q0), .second, .val (.int p1), .val (.int ((((p1.toUInt32 >>> ((2 : Int32) &&& 31).toUInt32).toInt32) &&& (15 : Int32)) - (4 : Int32))), .val (.int (p1 &&& (3 : Int32))), .unset, .unset, .unset] [])) _
          refine XS.lloadN X0.here hx rfl (hb hby at_61) rfl  ?_
          show Steps p.tables e below (s₁.setTop (mkF m 62 #[.val (.long q0), .second, .val (.int p1), .val (.int ((((p1.toUInt32 >>> ((2 : Int32) &&& 31).toUInt32).toInt32) &&& (15 : Int32)) - (4 : Int32))), .val (.int (p1 &&& (3 : Int32))), .unset, .unset, .unset] [(.long q0)])) _
          refine XS.iloadN X0.here hx rfl (hb hby at_62) rfl  ?_
          show Steps p.tables e below (s₁.setTop (mkF m 63 #[.val (.long q0), .second, .val (.int p1), .val (.int ((((p1.toUInt32 >>> ((2 : Int32) &&& 31).toUInt32).toInt32) &&& (15 : Int32)) - (4 : Int32))), .val (.int (p1 &&& (3 : Int32))), .unset, .unset, .unset] [(.int ((((p1.toUInt32 >>> ((2 : Int32) &&& 31).toUInt32).toInt32) &&& (15 : Int32)) - (4 : Int32))), (.long q0)])) _
          refine XS.i2l X0.here hx rfl (hb hby at_63) rfl ?_
          show Steps p.tables e below (s₁.setTop (mkF m 64 #[.val (.long q0), .second, .val (.int p1), .val (.int ((((p1.toUInt32 >>> ((2 : Int32) &&& 31).toUInt32).toInt32) &&& (15 : Int32)) - (4 : Int32))), .val (.int (p1 &&& (3 : Int32))), .unset, .unset, .unset] [(.long (((((p1.toUInt32 >>> ((2 : Int32) &&& 31).toUInt32).toInt32) &&& (15 : Int32)) - (4 : Int32)).toInt64)), (.long q0)])) _
          refine XS.ladd X0.here hx rfl (hb hby at_64) rfl ?_
          show Steps p.tables e below (s₁.setTop (mkF m 65 #[.val (.long q0), .second, .val (.int p1), .val (.int ((((p1.toUInt32 >>> ((2 : Int32) &&& 31).toUInt32).toInt32) &&& (15 : Int32)) - (4 : Int32))), .val (.int (p1 &&& (3 : Int32))), .unset, .unset, .unset] [(.long (q0 + (((((p1.toUInt32 >>> ((2 : Int32) &&& 31).toUInt32).toInt32) &&& (15 : Int32)) - (4 : Int32)).toInt64)))])) _
          refine XS.lstore X0.here hx rfl (hb hby at_65) rfl (l' := #[.val (.long q0), .second, .val (.int p1), .val (.int ((((p1.toUInt32 >>> ((2 : Int32) &&& 31).toUInt32).toInt32) &&& (15 : Int32)) - (4 : Int32))), .val (.int (p1 &&& (3 : Int32))), .val (.long (q0 + (((((p1.toUInt32 >>> ((2 : Int32) &&& 31).toUInt32).toInt32) &&& (15 : Int32)) - (4 : Int32)).toInt64))), .second, .unset]) rfl ?_
          have ek : (if (p1 &&& (3 : Int32)) = (0 : Int32) then q0 else (if (p1 &&& (3 : Int32)) = (1 : Int32) then (((((p1.toUInt32 >>> ((2 : Int32) &&& 31).toUInt32).toInt32) &&& (15 : Int32)) - (4 : Int32)).toInt64) else (if (p1 &&& (3 : Int32)) = (2 : Int32) then ((q0 &&& (-4294967296 : Int64)) ||| ((((((p1.toUInt32 >>> ((2 : Int32) &&& 31).toUInt32).toInt32) &&& (15 : Int32)) - (4 : Int32)).toInt64) &&& (4294967295 : Int64))) else (q0 + (((((p1.toUInt32 >>> ((2 : Int32) &&& 31).toUInt32).toInt32) &&& (15 : Int32)) - (4 : Int32)).toInt64))))) = (q0 + (((((p1.toUInt32 >>> ((2 : Int32) &&& 31).toUInt32).toInt32) &&& (15 : Int32)) - (4 : Int32)).toInt64)) := by first | (simp only [own_b, eq_false hc2, eq_false hc3, eq_false hc4, and_true, true_and, and_false, false_and, or_true, true_or, or_false, false_or, not_true_eq_false, not_false_eq_true, if_true, if_false, reduceIte]; done) | (simp [own_b, hc2, hc3, hc4]; done)
          rw [ek] at k
          exact k)
  obtain ⟨cv, hcv⟩ : ∃ z, z = (if (p1 &&& (3 : Int32)) = (0 : Int32) then q0 else (if (p1 &&& (3 : Int32)) = (1 : Int32) then (((((p1.toUInt32 >>> ((2 : Int32) &&& 31).toUInt32).toInt32) &&& (15 : Int32)) - (4 : Int32)).toInt64) else (if (p1 &&& (3 : Int32)) = (2 : Int32) then ((q0 &&& (-4294967296 : Int64)) ||| ((((((p1.toUInt32 >>> ((2 : Int32) &&& 31).toUInt32).toInt32) &&& (15 : Int32)) - (4 : Int32)).toInt64) &&& (4294967295 : Int64))) else (q0 + (((((p1.toUInt32 >>> ((2 : Int32) &&& 31).toUInt32).toInt32) &&& (15 : Int32)) - (4 : Int32)).toInt64))))) := ⟨_, rfl⟩
  rw [← hcv] at pre5
  obtain ⟨_, _, ⟨T6, L6, k6, n6⟩, -, X6, ⟨Lc6, hQ6, l6, y6, z6⟩, st6⟩ := Jvm.LawKit.callS X0 hx (y := (⟨"com/example/docketline/docketline/lobster/EventType", "of", "(J)Lcom/example/docketline/docketline/lobster/EventType;"⟩ : MethodName)) hown (mvT hZ (ow hw 2 rfl)) (mvT hZ (ow hw 3 rfl)) (mvT hZ (ow hw 4 rfl)) (mvT hZ (ow hw 5 rfl)) (by decide) (backOf (W := 0) (rm1 l Z a0 hw [] cv va kc t0 t1 t2 t3 t4 t5 h0 n0 Z0 Sv O0 V0 E0 C0 C1 C2 C3 C4 C5) hZ (ow hw 5 rfl) (ow hw 4 rfl) (by decide) (by decide)) (g := (mkF m 69 #[.val (.long q0), .second, .val (.int p1), .val (.int ((((p1.toUInt32 >>> ((2 : Int32) &&& 31).toUInt32).toInt32) &&& (15 : Int32)) - (4 : Int32))), .val (.int (p1 &&& (3 : Int32))), .val (.long cv), .second, .unset] [(.long cv)])) rfl (by rw [hml]; rfl) (argsL := [(.long cv)]) (rest := []) (lenOf pd3 rfl) rfl (by show 2 * 0 + _ ≤ _; exact Nat.le_of_eq rfl) (hb hby at_69) (fun _ _ => ⟨rfl, e0, (by decide : 0 + 1 ≤ _), (by decide : 0 + 6 ≤ _)⟩)
  dsimp only [Pt.U, Pt.locs, Pt.cells, Pt.slots] at X6 l6 y6 z6 st6 hQ6
  subst l6 y6 z6
  obtain ⟨rfl, N6q, K6⟩ := hQ6
  have N6 := Fr.app N0 N6q
  have Z7 : n0 ≤ T6.heap.size := Nat.le_trans Z0 K6.1
  have fa8 : Old Z n0 T6.heap := (O0.keep K6 all0)
  obtain ⟨_, _, ⟨T9, L9, k9, n9⟩, -, X9, ⟨Lc9, hQ9, l9, y9, z9⟩, st9⟩ := Jvm.LawKit.callS X6 hx (y := (⟨"com/example/docketline/docketline/lobster/EventTypeOfPinLaw", "expected", "(J)Lcom/example/docketline/docketline/lobster/EventType;"⟩ : MethodName)) hown (mvT hZ (ow hw 29 rfl)) (mvT hZ (ow hw 30 rfl)) (mvT hZ (ow hw 31 rfl)) (mvT hZ (ow hw 32 rfl)) (by decide) (backOf (W := 1) (rm3 l Z a0 hw [] cv t0 t1 t2 t3 t4 t5 T6.heap n0 Z7 fa8 S0 S1 S2 S3 S4 S5) hZ (ow hw 32 rfl) (ow hw 31 rfl) (by decide) (by decide)) (g := (mkF m 78 #[.val (.long q0), .second, .val (.int p1), .val (.int ((((p1.toUInt32 >>> ((2 : Int32) &&& 31).toUInt32).toInt32) &&& (15 : Int32)) - (4 : Int32))), .val (.int (p1 &&& (3 : Int32))), .val (.long cv), .second, .val (own_of cv t0 t1 t2 t3 t4 t5)] [(.long cv), (own_of cv t0 t1 t2 t3 t4 t5)])) rfl (by rw [hml]; rfl) (argsL := [(.long cv)]) (rest := [(own_of cv t0 t1 t2 t3 t4 t5)]) (lenOf pd3 rfl) rfl (by show 2 * 0 + _ ≤ _; simp [XT.cat1 (own_ofr cv t0 t1 t2 t3 t4 t5)]) (hb hby at_78) (fun _ _ => ⟨rfl, rfl, (by decide : 1 + 0 ≤ _), (by decide : 6 + 0 ≤ _)⟩)
  dsimp only [Pt.U, Pt.locs, Pt.cells, Pt.slots] at X9 l9 y9 z9 st9 hQ9
  subst l9 y9 z9
  obtain ⟨rfl, N9q, e9⟩ := hQ9
  have N9 := Fr.app N6 N9q
  obtain ⟨fs, hr, hrun, hended, hW, hsame⟩ := X9.leave (v := some (.int (1 : Int32))) (fun h => by rw [Bd.returns] at h; cases h)
  refine ⟨_, _, pre5 _ ?_, hrun, hended, _, _, rfl, ?_, ⟨_, rfl⟩, hW, hsame.mono (by decide) (by decide)⟩
  · show Steps p.tables e below (s₁.setTop (mkF m 67 #[.val (.long q0), .second, .val (.int p1), .val (.int ((((p1.toUInt32 >>> ((2 : Int32) &&& 31).toUInt32).toInt32) &&& (15 : Int32)) - (4 : Int32))), .val (.int (p1 &&& (3 : Int32))), .val (.long cv), .second, .unset] [])) _
    refine XS.lload X0.here hx rfl (hb hby at_67) rfl  ?_
    show Steps p.tables e below (s₁.setTop (mkF m 69 #[.val (.long q0), .second, .val (.int p1), .val (.int ((((p1.toUInt32 >>> ((2 : Int32) &&& 31).toUInt32).toInt32) &&& (15 : Int32)) - (4 : Int32))), .val (.int (p1 &&& (3 : Int32))), .val (.long cv), .second, .unset] [(.long cv)])) _
    refine st6 _ ?_
    show Steps p.tables e below (T6.setTop (mkF m 72 #[.val (.long q0), .second, .val (.int p1), .val (.int ((((p1.toUInt32 >>> ((2 : Int32) &&& 31).toUInt32).toInt32) &&& (15 : Int32)) - (4 : Int32))), .val (.int (p1 &&& (3 : Int32))), .val (.long cv), .second, .unset] [(own_of cv t0 t1 t2 t3 t4 t5)])) _
    refine XS.astoreS X6.here hx rfl (hb hby at_72) rfl (own_ofr cv t0 t1 t2 t3 t4 t5) (XT.cat1 (own_ofr cv t0 t1 t2 t3 t4 t5)) rfl (Or.inl rfl) ?_
    show Steps p.tables e below (T6.setTop (mkF m 74 #[.val (.long q0), .second, .val (.int p1), .val (.int ((((p1.toUInt32 >>> ((2 : Int32) &&& 31).toUInt32).toInt32) &&& (15 : Int32)) - (4 : Int32))), .val (.int (p1 &&& (3 : Int32))), .val (.long cv), .second, .val (own_of cv t0 t1 t2 t3 t4 t5)] [])) _
    refine XS.aload X6.here hx rfl (hb hby at_74) rfl (own_ofr cv t0 t1 t2 t3 t4 t5) ?_
    show Steps p.tables e below (T6.setTop (mkF m 76 #[.val (.long q0), .second, .val (.int p1), .val (.int ((((p1.toUInt32 >>> ((2 : Int32) &&& 31).toUInt32).toInt32) &&& (15 : Int32)) - (4 : Int32))), .val (.int (p1 &&& (3 : Int32))), .val (.long cv), .second, .val (own_of cv t0 t1 t2 t3 t4 t5)] [(own_of cv t0 t1 t2 t3 t4 t5)])) _
    refine XS.lload X6.here hx rfl (hb hby at_76) rfl  ?_
    show Steps p.tables e below (T6.setTop (mkF m 78 #[.val (.long q0), .second, .val (.int p1), .val (.int ((((p1.toUInt32 >>> ((2 : Int32) &&& 31).toUInt32).toInt32) &&& (15 : Int32)) - (4 : Int32))), .val (.int (p1 &&& (3 : Int32))), .val (.long cv), .second, .val (own_of cv t0 t1 t2 t3 t4 t5)] [(.long cv), (own_of cv t0 t1 t2 t3 t4 t5)])) _
    refine st9 _ ?_
    show Steps p.tables e below (T9.setTop (mkF m 81 #[.val (.long q0), .second, .val (.int p1), .val (.int ((((p1.toUInt32 >>> ((2 : Int32) &&& 31).toUInt32).toInt32) &&& (15 : Int32)) - (4 : Int32))), .val (.int (p1 &&& (3 : Int32))), .val (.long cv), .second, .val (own_of cv t0 t1 t2 t3 t4 t5)] [(own_of cv t0 t1 t2 t3 t4 t5), (own_of cv t0 t1 t2 t3 t4 t5)])) _
    refine Jvm.RoadKit.acmp (g := (mkF m 81 #[.val (.long q0), .second, .val (.int p1), .val (.int ((((p1.toUInt32 >>> ((2 : Int32) &&& 31).toUInt32).toInt32) &&& (15 : Int32)) - (4 : Int32))), .val (.int (p1 &&& (3 : Int32))), .val (.long cv), .second, .val (own_of cv t0 t1 t2 t3 t4 t5)] [(own_of cv t0 t1 t2 t3 t4 t5), (own_of cv t0 t1 t2 t3 t4 t5)])) X9 hx rfl (own_ofr cv t0 t1 t2 t3 t4 t5) (own_ofr cv t0 t1 t2 t3 t4 t5) (pc0 := 81) (pc' := 84) (same := true) rfl (hb hby at_81) rfl (decide_eq_true rfl) (by decide) (by decide) ?_
    show Steps p.tables e below (T9.setTop (mkF m 84 #[.val (.long q0), .second, .val (.int p1), .val (.int ((((p1.toUInt32 >>> ((2 : Int32) &&& 31).toUInt32).toInt32) &&& (15 : Int32)) - (4 : Int32))), .val (.int (p1 &&& (3 : Int32))), .val (.long cv), .second, .val (own_of cv t0 t1 t2 t3 t4 t5)] [])) _
    refine XS.iconst X9.here hx rfl (hb hby at_84) ?_
    show Steps p.tables e below (T9.setTop (mkF m 85 #[.val (.long q0), .second, .val (.int p1), .val (.int ((((p1.toUInt32 >>> ((2 : Int32) &&& 31).toUInt32).toInt32) &&& (15 : Int32)) - (4 : Int32))), .val (.int (p1 &&& (3 : Int32))), .val (.long cv), .second, .val (own_of cv t0 t1 t2 t3 t4 t5)] [(.int (1 : Int32))])) _
    refine XS.goto X9.here hx rfl (pc0 := 85) (pc' := 89) rfl (hb hby at_85) (by decide) (by decide) ?_
    show Steps p.tables e below (T9.setTop (mkF m 89 #[.val (.long q0), .second, .val (.int p1), .val (.int ((((p1.toUInt32 >>> ((2 : Int32) &&& 31).toUInt32).toInt32) &&& (15 : Int32)) - (4 : Int32))), .val (.int (p1 &&& (3 : Int32))), .val (.long cv), .second, .val (own_of cv t0 t1 t2 t3 t4 t5)] [(.int (1 : Int32))])) _
    exact retN X9 hx (t := .boolean) Bd.returns (by simp) (hb hby at_89) hr
  · show Q0 Z q0 p1 va kc t0 t1 t2 t3 t4 t5 h0 n0 _ T9.heap _
    rw [e9]
    exact ⟨rfl, N9⟩
set_option maxRecDepth 65536 in
set_option maxHeartbeats 40000000 in
theorem comes_1 {Post : Tables → Env → Array Value → State → Outcome → State → Prop} (hpost : ∀ tb e args s v u, (limb_1_1.after args s (.returned v) u = true ∧ limb_1_2.after args s (.returned v) u = true ∧ True) → FrameEnd s (.returned v) u (Jvm.fieldLocs frame_1_writes args s ++ Jvm.arrayLocs frame_1_arrays args s ++ Jvm.staticLocs frame_1_statics s) 16 128 → Post tb e args s (.returned v) u) :
    ArmFor flags0 classFile x code maxLocals ret World_1 tables_1 room_1 Calls_1 rest_1 Pre_1 Post := by
  intro l hfl _ _ p e ha hc hk s m args below hf hA hF happ hP
  obtain ⟨hcalls, hrest, hpre⟩ := hP
  obtain ⟨-, -, -, hnamed, -, -, -, hat⟩ := (Spec.applies_iff hf).mp happ
  obtain ⟨hg, hn⟩ := and_e (Cond.before_iff.mp (show (Jvm.Cond.and given_1 narrow_1).before args s = true from hpre))
  obtain ⟨g1, g2⟩ := and_e hg
  obtain ⟨g3, g4⟩ := and_e g2
  obtain ⟨w0, w1, rfl⟩ : ∃ w0 w1 : Value, args = #[w0, w1] := by
    have hs : args.size = 2 := by simpa [Cond.value, given_1] using g1
    obtain ⟨L⟩ := args
    match L, hs with
    | [w0, w1], _ => exact ⟨w0, w1, rfl⟩
  have hw := fun d (hd : d ∈ tables_1) => atoms_spec (ws := Jvm.Cond.code x code maxLocals ret :: tables_1) hat d (List.mem_cons_of_mem _ hd)
  have hfit : Fit s := fun {y c} hc i hi => by
    obtain ⟨ha, rfl⟩ := Array.getElem?_eq_some_iff.mp hc
    have q := List.all_eq_true.mp ((Array.all_eq_true_iff_forall_mem.mp hF) _ (Array.getElem_mem ha)) i (List.mem_range.mpr hi)
    simpa [Array.getElem?_eq_getElem hi] using q
  obtain ⟨i0, ei0⟩ := isL_v g3
  obtain rfl : w0 = (.long i0) := Option.some.inj ei0
  obtain ⟨i1, ei1⟩ := is_v g4
  obtain rfl : w1 = (.int i1) := Option.some.inj ei1
  obtain ⟨nn1, nn2⟩ := and_e hn
  obtain ⟨nn3, nn4⟩ := and_e nn2
  obtain ⟨nn5, nn6⟩ := and_e nn4
  obtain ⟨nn7, nn8⟩ := and_e nn6
  obtain ⟨nn9, nn10⟩ := and_e nn8
  obtain ⟨nn11, nn12⟩ := and_e nn10
  obtain ⟨nn13, nn14⟩ := and_e nn12
  obtain ⟨nn15, nn16⟩ := and_e nn14
  obtain ⟨nn17, nn18⟩ := and_e nn16
  obtain ⟨nn19, nn20⟩ := and_e nn18
  obtain ⟨nn21, nn22⟩ := and_e nn20
  obtain ⟨nn23, nn24⟩ := and_e nn22
  obtain ⟨nn25, nn26⟩ := and_e nn24
  obtain ⟨nn27, nn28⟩ := and_e nn26
  obtain ⟨nn29, nn30⟩ := and_e nn28
  obtain ⟨nn31, nn32⟩ := and_e nn30
  obtain ⟨nn33, nn34⟩ := and_e nn32
  obtain ⟨nn35, nn36⟩ := and_e nn34
  obtain ⟨nn37, nn38⟩ := and_e nn36
  obtain ⟨nn39, nn40⟩ := and_e nn38
  obtain ⟨va, eva⟩ := arr_v nn1
  obtain ⟨cl, Av⟩ := Arr.start eva nn1
  have Sv := Sta.start eva (Or.inr ⟨(ow hw 4 rfl), (ow hw 10 rfl)⟩)
  have Ev := Exa.start eva nn3
  obtain ⟨hs1, hs2⟩ := Jvm.Free.IntBox.length_fwd (Cond.before_iff.mpr nn5) eva Av.1 Av.2.1 Av.2.2
  obtain ⟨t0, et0⟩ := exa_v nn7
  have S0 := Sta.start et0 (Or.inr ⟨(ow hw 4 rfl), (ow hw 18 rfl)⟩)
  have el0 := (elem_in (own_eqR nn9 et0) eva (Term.int_eval (0)) Av.1).2
  obtain ⟨t1, et1⟩ := exa_v nn11
  have S1 := Sta.start et1 (Or.inr ⟨(ow hw 4 rfl), (ow hw 19 rfl)⟩)
  have el1 := (elem_in (own_eqR nn13 et1) eva (Term.int_eval (1)) Av.1).2
  obtain ⟨t2, et2⟩ := exa_v nn15
  have S2 := Sta.start et2 (Or.inr ⟨(ow hw 4 rfl), (ow hw 20 rfl)⟩)
  have el2 := (elem_in (own_eqR nn17 et2) eva (Term.int_eval (2)) Av.1).2
  obtain ⟨t3, et3⟩ := exa_v nn19
  have S3 := Sta.start et3 (Or.inr ⟨(ow hw 4 rfl), (ow hw 21 rfl)⟩)
  have el3 := (elem_in (own_eqR nn21 et3) eva (Term.int_eval (3)) Av.1).2
  obtain ⟨t4, et4⟩ := exa_v nn23
  have S4 := Sta.start et4 (Or.inr ⟨(ow hw 4 rfl), (ow hw 22 rfl)⟩)
  have el4 := (elem_in (own_eqR nn25 et4) eva (Term.int_eval (4)) Av.1).2
  obtain ⟨t5, et5⟩ := exa_v nn27
  have S5 := Sta.start et5 (Or.inr ⟨(ow hw 4 rfl), (ow hw 23 rfl)⟩)
  have el5 := (elem_in (own_eqR nn29 et5) eva (Term.int_eval (5)) Av.1).2
  have o0 := own_eqI nn31
  rw [fld_at et0] at o0
  have C0 := Fld.start o0
  have o1 := own_eqI nn33
  rw [fld_at et1] at o1
  have C1 := Fld.start o1
  have o2 := own_eqI nn35
  rw [fld_at et2] at o2
  have C2 := Fld.start o2
  have o3 := own_eqI nn37
  rw [fld_at et3] at o3
  have C3 := Fld.start o3
  have o4 := own_eqI nn39
  rw [fld_at et4] at o4
  have C4 := Fld.start o4
  have o5 := own_eqI nn40
  rw [fld_at et5] at o5
  have C5 := Fld.start o5
  have V0 := Arv.start (vs := [.ref t0, .ref t1, .ref t2, .ref t3, .ref t4, .ref t5]) (dv := .null) hfit Av hs1 hs2 (by decide) rfl ⟨el0, el1, el2, el3, el4, el5, trivial⟩
  obtain ⟨n, o, h1, h2, h3, _, L, rfl, ⟨rfl, N⟩, hq⟩ := rm0 l s _ hw tables_1 i0 i1 va cl.cls t0 t1 t2 t3 t4 t5 s.heap s.heap.size (Nat.le_refl _) Sv (Old.start s) V0 Ev C0 C1 C2 C3 C4 C5 S0 S1 S2 S3 S4 S5 p e ha hc hk s m _ below hf ((Spec.applies_iff_loose hf).mp happ).1 ⟨rfl, State.Warmed39.refl s, rfl⟩ trivial
  refine ⟨n, _, h1, h2, h3, hpost _ _ _ _ _ _ ⟨Cond.after_iff.mpr rfl, Cond.after_iff.mpr (eq_i res_at (Term.int_eval (1)) rfl), trivial⟩ ⟨hq.1, hq.2.1, (hq.2.2.sift fun y hy => Or.inr (N y hy)).mono (by decide) (by decide)⟩⟩
theorem main_1_1 : Claimed_1_1 := comes_1 fun _ _ _ _ _ _ h hF => ⟨h.1, hF⟩
theorem main_1_2 : Claimed_1_2 := comes_1 fun _ _ _ _ _ _ h hF => ⟨h.2.1, hF⟩
end Jvm.Pilot.@@N@@
namespace Jvm.Pilot.@@N@@
open Jvm Jvm.ClassFile Sem Op Lib Jvm.Free Jvm.Stand Jvm.Pilot.@@N@@.Jvm.D
/-! MADE BY PROGRAM (witnessworld.py) out of the Statement's table words and the real class files: 13 classes; the members and pool entries that the words name. The judged class is class 1, her method 2. -/
namespace start1
open Jvm.ClassFile
def u (s : String) : CpInfo := .utf8 (stringToUtf16 s)
/-- a pool by its gaps: so many unusable entries, then the entry; so many at the end -/
def gap : Nat → List CpInfo → List CpInfo
  | 0, r => r
  | n + 1, r => .unusable :: gap n r
def poolList (es : List (Nat × CpInfo)) (last : Nat) : List CpInfo := es.foldr (fun e r => gap e.1 (e.2 :: r)) (gap last [])
def pool (es : List (Nat × CpInfo)) (last : Nat) : Array CpInfo := ⟨poolList es last⟩
def fileOf (pool : Array CpInfo) (this : Nat) (attrs : Array Attribute := #[]) (ms : Array MethodInfo := #[]) (fl : Nat := 33) (sup : Nat := 0) (ifs : Array Nat := #[]) (fds : Array FieldInfo := #[]) : ClassFile where
  minorVersion := 0
  majorVersion := 65
  constantPool := pool
  accessFlags := fl
  thisClass := this
  superClass := sup
  interfaces := ifs
  fields := fds
  methods := ms
  attributes := attrs
def plain (name : String) (sup : Option ClassId) : Class where
  name := name
  kind := .ordinary
  loader := none
  accessFlags := 33
  super := sup
  interfaces := #[]
  cf := none
  fields := #[]
  methods := #[]
  instanceTypes := #[]
  staticTypes := #[]
  resolved := #[]
  callSites := []
  init := .initialized
  statics := none
  mirror := none

def pool0 : Array CpInfo := pool [(5, u "<init>"), (0, u "()V"), (1, .class_ 10), (1, u "java/lang/Object"), (85, u "clone"), (0, u "()Ljava/lang/Object;")] 26

def k0m0 : Method := { name := "<init>", desc := "()V", sig := { parameters := [], returnType := none }, accessFlags := 1, code := none }
def k0m1 : Method := { name := "clone", desc := "()Ljava/lang/Object;", sig := { parameters := [], returnType := some (.object "java/lang/Object") }, accessFlags := 260, code := none }
/-- java/lang/Object -/
def k0 : Class := { plain "java/lang/Object" none with
  accessFlags := 33
  interfaces := #[]
  cf := some (fileOf pool0 8 #[] #[{ accessFlags := 1, nameIndex := 5, descriptorIndex := 6, attributes := #[] }, { accessFlags := 260, nameIndex := 96, descriptorIndex := 97, attributes := #[] }] 33 0 #[] #[])
  fields := #[]
  methods := #[k0m0, k0m1]
  instanceTypes := #[]
  staticTypes := #[]
  resolved := Array.replicate 124 none
  statics := none }

def pool1 : Array CpInfo := pool [(2, .class_ 4), (1, u "java/lang/Object"), (0, u "<init>"), (0, u "()V"), (0, .fieldref 8 9), (0, .class_ 10), (0, .nameAndType 11 12), (0, u "com/example/docketline/docketline/lobster/EventType"), (0, u "ADD"), (0, u "Lcom/example/docketline/docketline/lobster/EventType;"), (0, .long 2), (1, .fieldref 8 16), (0, .nameAndType 17 12), (0, u "PARTIAL_CANCEL"), (0, .long 3), (1, .fieldref 8 21), (0, .nameAndType 22 12), (0, u "DELETE"), (0, .long 4), (1, .fieldref 8 26), (0, .nameAndType 27 12), (0, u "EXECUTE_VISIBLE"), (0, .long 5), (1, .fieldref 8 31), (0, .nameAndType 32 12), (0, u "EXECUTE_HIDDEN"), (0, .long 7), (1, .fieldref 8 36), (0, .nameAndType 37 12), (0, u "HALT_MARKER"), (0, .long 18446744069414584320), (1, .long 4294967295), (1, .methodref 8 43), (0, .nameAndType 44 45), (0, u "of"), (0, u "(J)Lcom/example/docketline/docketline/lobster/EventType;"), (0, .methodref 47 48), (0, .class_ 49), (0, .nameAndType 50 45), (0, u "com/example/docketline/docketline/lobster/EventTypeOfPinLaw"), (0, u "expected"), (3, u "law"), (0, u "(JI)Z")] 2

def k1m0 : Method := { name := "<init>", desc := "()V", sig := { parameters := [], returnType := none }, accessFlags := 1, code := none }
def k1c1 : Code := { maxStack := 4, maxLocals := 2, code := method_2_code, exceptionTable := #[], attributes := #[] }
def k1m1 : Method := { name := "expected", desc := "(J)Lcom/example/docketline/docketline/lobster/EventType;", sig := { parameters := [.long], returnType := some (.object "com/example/docketline/docketline/lobster/EventType") }, accessFlags := 10, code := some k1c1 }
def k1c2 : Code := { maxStack := 6, maxLocals := 8, code := code, exceptionTable := #[], attributes := #[] }
def k1m2 : Method := { name := "law", desc := "(JI)Z", sig := { parameters := [.long, .int], returnType := some .boolean }, accessFlags := 9, code := some k1c2 }
/-- com/example/docketline/docketline/lobster/EventTypeOfPinLaw -/
def k1 : Class := { plain "com/example/docketline/docketline/lobster/EventTypeOfPinLaw" (some 0) with
  accessFlags := 49
  interfaces := #[]
  cf := some (fileOf pool1 47 #[] #[{ accessFlags := 1, nameIndex := 5, descriptorIndex := 6, attributes := #[] }, { accessFlags := 10, nameIndex := 50, descriptorIndex := 45, attributes := #[] }, { accessFlags := 9, nameIndex := 54, descriptorIndex := 55, attributes := #[] }] 49 2 #[] #[])
  fields := #[]
  methods := #[k1m0, k1m1, k1m2]
  instanceTypes := #[]
  staticTypes := #[]
  resolved := Array.replicate 58 none
  statics := none }

def pool2 : Array CpInfo := pool [(1, .class_ 2), (0, u "java/lang/constant/Constable"), (0, .class_ 4), (0, u "java/lang/Object")] 6

/-- java/lang/constant/Constable -/
def k2 : Class := { plain "java/lang/constant/Constable" (some 0) with
  accessFlags := 1537
  interfaces := #[]
  cf := some (fileOf pool2 1 #[] #[] 1537 3 #[] #[])
  fields := #[]
  methods := #[]
  instanceTypes := #[]
  staticTypes := #[]
  resolved := Array.replicate 11 none
  statics := none }

def pool3 : Array CpInfo := pool [(1, .class_ 2), (0, u "java/lang/Comparable"), (0, .class_ 4), (0, u "java/lang/Object")] 7

/-- java/lang/Comparable -/
def k3 : Class := { plain "java/lang/Comparable" (some 0) with
  accessFlags := 1537
  interfaces := #[]
  cf := some (fileOf pool3 1 #[] #[] 1537 3 #[] #[])
  fields := #[]
  methods := #[]
  instanceTypes := #[]
  staticTypes := #[]
  resolved := Array.replicate 12 none
  statics := none }

def pool4 : Array CpInfo := pool [(1, .class_ 2), (0, u "java/io/Serializable"), (0, .class_ 4), (0, u "java/lang/Object")] 2

/-- java/io/Serializable -/
def k4 : Class := { plain "java/io/Serializable" (some 0) with
  accessFlags := 1537
  interfaces := #[]
  cf := some (fileOf pool4 1 #[] #[] 1537 3 #[] #[])
  fields := #[]
  methods := #[]
  instanceTypes := #[]
  staticTypes := #[]
  resolved := Array.replicate 7 none
  statics := none }

def pool5 : Array CpInfo := pool [(2, .class_ 4), (1, u "java/lang/Enum"), (0, u "name"), (0, u "Ljava/lang/String;"), (2, u "ordinal"), (0, u "I"), (1, .class_ 14), (1, u "java/lang/Object"), (4, u "hash"), (86, .class_ 108), (1, u "java/lang/Enum$EnumDesc"), (2, .class_ 112), (0, u "java/lang/constant/Constable"), (0, .class_ 114), (0, u "java/lang/Comparable"), (0, .class_ 116), (0, u "java/io/Serializable")] 87

/-- java/lang/Enum -/
def k5 : Class := { plain "java/lang/Enum" (some 0) with
  accessFlags := 1057
  interfaces := #[2, 3, 4]
  cf := some (fileOf pool5 2 #[.nestMembers #[106]] #[] 1057 12 #[111, 113, 115] #[{ accessFlags := 18, nameIndex := 5, descriptorIndex := 6, attributes := #[] }, { accessFlags := 18, nameIndex := 9, descriptorIndex := 10, attributes := #[] }, { accessFlags := 2, nameIndex := 19, descriptorIndex := 10, attributes := #[] }])
  fields := #[{ name := "name", type := (.object "java/lang/String"), accessFlags := 18, slot := 0, constantValue := 0 }, { name := "ordinal", type := .int, accessFlags := 18, slot := 1, constantValue := 0 }, { name := "hash", type := .int, accessFlags := 2, slot := 2, constantValue := 0 }]
  methods := #[]
  instanceTypes := #[(.object "java/lang/String"), .int, .int]
  staticTypes := #[]
  resolved := Array.replicate 204 none
  statics := none }

def pool6 : Array CpInfo := pool [(1, .class_ 2), (0, u "com/example/docketline/docketline/lobster/EventType"), (2, u "ADD"), (0, u "Lcom/example/docketline/docketline/lobster/EventType;"), (2, u "PARTIAL_CANCEL"), (2, u "DELETE"), (2, u "EXECUTE_VISIBLE"), (2, u "EXECUTE_HIDDEN"), (2, u "HALT_MARKER"), (0, .fieldref 1 23), (0, .nameAndType 24 25), (0, u "$VALUES"), (0, u "[Lcom/example/docketline/docketline/lobster/EventType;"), (0, .methodref 27 28), (0, .class_ 25), (0, .nameAndType 29 30), (0, u "clone"), (0, u "()Ljava/lang/Object;"), (1, .class_ 34), (1, u "java/lang/Enum"), (6, .fieldref 1 42), (0, .nameAndType 43 44), (0, u "code"), (0, u "I"), (2, u "keyword"), (0, u "Ljava/lang/String;"), (0, .methodref 1 50), (0, .nameAndType 51 52), (0, u "values"), (0, u "()[Lcom/example/docketline/docketline/lobster/EventType;"), (32, u "of"), (0, u "(J)Lcom/example/docketline/docketline/lobster/EventType;")] 6

def k6c0 : Code := { maxStack := 1, maxLocals := 0, code := prog_54_method_1_code, exceptionTable := #[], attributes := #[] }
def k6m0 : Method := { name := "values", desc := "()[Lcom/example/docketline/docketline/lobster/EventType;", sig := { parameters := [], returnType := some (.array (.object "com/example/docketline/docketline/lobster/EventType")) }, accessFlags := 9, code := some k6c0 }
def k6c1 : Code := { maxStack := 4, maxLocals := 6, code := prog_54_method_6_code, exceptionTable := #[], attributes := #[] }
def k6m1 : Method := { name := "of", desc := "(J)Lcom/example/docketline/docketline/lobster/EventType;", sig := { parameters := [.long], returnType := some (.object "com/example/docketline/docketline/lobster/EventType") }, accessFlags := 8, code := some k6c1 }
/-- com/example/docketline/docketline/lobster/EventType -/
def k6 : Class := { plain "com/example/docketline/docketline/lobster/EventType" (some 5) with
  accessFlags := 16433
  interfaces := #[]
  cf := some (fileOf pool6 1 #[] #[{ accessFlags := 9, nameIndex := 51, descriptorIndex := 52, attributes := #[] }, { accessFlags := 8, nameIndex := 85, descriptorIndex := 86, attributes := #[] }] 16433 32 #[] #[{ accessFlags := 16409, nameIndex := 5, descriptorIndex := 6, attributes := #[] }, { accessFlags := 16409, nameIndex := 9, descriptorIndex := 6, attributes := #[] }, { accessFlags := 16409, nameIndex := 12, descriptorIndex := 6, attributes := #[] }, { accessFlags := 16409, nameIndex := 15, descriptorIndex := 6, attributes := #[] }, { accessFlags := 16409, nameIndex := 18, descriptorIndex := 6, attributes := #[] }, { accessFlags := 16409, nameIndex := 21, descriptorIndex := 6, attributes := #[] }, { accessFlags := 18, nameIndex := 43, descriptorIndex := 44, attributes := #[] }, { accessFlags := 18, nameIndex := 47, descriptorIndex := 48, attributes := #[] }, { accessFlags := 4122, nameIndex := 24, descriptorIndex := 25, attributes := #[] }])
  fields := #[{ name := "ADD", type := (.object "com/example/docketline/docketline/lobster/EventType"), accessFlags := 16409, slot := 0, constantValue := 0 }, { name := "PARTIAL_CANCEL", type := (.object "com/example/docketline/docketline/lobster/EventType"), accessFlags := 16409, slot := 1, constantValue := 0 }, { name := "DELETE", type := (.object "com/example/docketline/docketline/lobster/EventType"), accessFlags := 16409, slot := 2, constantValue := 0 }, { name := "EXECUTE_VISIBLE", type := (.object "com/example/docketline/docketline/lobster/EventType"), accessFlags := 16409, slot := 3, constantValue := 0 }, { name := "EXECUTE_HIDDEN", type := (.object "com/example/docketline/docketline/lobster/EventType"), accessFlags := 16409, slot := 4, constantValue := 0 }, { name := "HALT_MARKER", type := (.object "com/example/docketline/docketline/lobster/EventType"), accessFlags := 16409, slot := 5, constantValue := 0 }, { name := "code", type := .int, accessFlags := 18, slot := 3, constantValue := 0 }, { name := "keyword", type := (.object "java/lang/String"), accessFlags := 18, slot := 4, constantValue := 0 }, { name := "$VALUES", type := (.array (.object "com/example/docketline/docketline/lobster/EventType")), accessFlags := 4122, slot := 6, constantValue := 0 }]
  methods := #[k6m0, k6m1]
  instanceTypes := #[(.object "java/lang/String"), .int, .int, .int, (.object "java/lang/String")]
  staticTypes := #[(.object "com/example/docketline/docketline/lobster/EventType"), (.object "com/example/docketline/docketline/lobster/EventType"), (.object "com/example/docketline/docketline/lobster/EventType"), (.object "com/example/docketline/docketline/lobster/EventType"), (.object "com/example/docketline/docketline/lobster/EventType"), (.object "com/example/docketline/docketline/lobster/EventType"), (.array (.object "com/example/docketline/docketline/lobster/EventType"))]
  resolved := Array.replicate 93 none
  statics := some 0 }

def pool7 : Array CpInfo := pool [(1, .class_ 2), (0, u "java/lang/Cloneable"), (0, .class_ 4), (0, u "java/lang/Object")] 2

/-- java/lang/Cloneable -/
def k7 : Class := { plain "java/lang/Cloneable" (some 0) with
  accessFlags := 1537
  interfaces := #[]
  cf := some (fileOf pool7 1 #[] #[] 1537 3 #[] #[])
  fields := #[]
  methods := #[]
  instanceTypes := #[]
  staticTypes := #[]
  resolved := Array.replicate 7 none
  statics := none }

/-- the primitive byte -/
def k8 : Class := { plain "byte" none with kind := .primitive 'B', accessFlags := 0x411 }
/-- [B -/
def k9 : Class := { plain "[B" (some 0) with kind := .array 8 .byte, interfaces := #[7, 4], accessFlags := 1041 }

/-- the primitive int -/
def k10 : Class := { plain "int" none with kind := .primitive 'I', accessFlags := 0x411 }
/-- [I -/
def k11 : Class := { plain "[I" (some 0) with kind := .array 10 .int, interfaces := #[7, 4], accessFlags := 1041 }

/-- [Lcom/example/docketline/docketline/lobster/EventType; -/
def k12 : Class := { plain "[Lcom/example/docketline/docketline/lobster/EventType;" (some 0) with kind := .array 6 (.object "com/example/docketline/docketline/lobster/EventType"), interfaces := #[7, 4], accessFlags := 1041 }

def heap : Heap := #[{ cls := 6, slots := #[.ref 2, .ref 3, .ref 4, .ref 5, .ref 6, .ref 7, .ref 1], vm := .statics 6 },
  { cls := 12, slots := #[.ref 2, .ref 3, .ref 4, .ref 5, .ref 6, .ref 7], vm := .none },
  { cls := 6, slots := #[.null, .int 0, .int 0, .int 1, .null], vm := .none },
  { cls := 6, slots := #[.null, .int 1, .int 0, .int 2, .null], vm := .none },
  { cls := 6, slots := #[.null, .int 2, .int 0, .int 3, .null], vm := .none },
  { cls := 6, slots := #[.null, .int 3, .int 0, .int 4, .null], vm := .none },
  { cls := 6, slots := #[.null, .int 4, .int 0, .int 5, .null], vm := .none },
  { cls := 6, slots := #[.null, .int 5, .int 0, .int 7, .null], vm := .none }]
def classes : Array Class := #[k0, k1, k2, k3, k4, k5, k6, k7, k8, k9, k10, k11, k12]
def interned : List (Array UInt16 × Addr) := []
def slotsUsed : Nat := 43
def theMethod : MethodId := ⟨1, 2⟩
def args0 : Array Value := #[.long 5, .int 6]
def aboutOver (below : List Frame) : State where
  vm := { classes := classes, interned := interned.toArray }
  heap := heap
  slotsUsed := slotsUsed
  threads := #[{ frames := .invoking theMethod args0 :: below }]
def below0 : List Frame := [.native { method := ⟨0, 0⟩, args := #[] }]
def about1 : State := aboutOver below0
def p0 : Program := .bare "" "" ""
def e0 : Env := launch0.env 0 0 0
theorem w_frames : about1.frames = Frame.invoking theMethod args0 :: below0 := rfl
set_option maxRecDepth 65536 in
theorem w_args : argsFit about1.vm theMethod args0 = true := by decide +kernel
set_option maxRecDepth 65536 in
theorem w_heap : heapFits about1 = true := by decide +kernel
set_option maxRecDepth 65536 in
theorem w_runnable : about1.curStatus? = some .runnable := by decide +kernel
set_option maxRecDepth 65536 in
theorem w_alone : about1.alone = true := by decide +kernel
set_option maxRecDepth 65536 in
theorem w_named : about1.methodNamed? x = some theMethod := by decide +kernel
set_option maxRecDepth 65536 in
theorem w_hears : about1.hears theMethod below0 = true := by decide +kernel
set_option maxRecDepth 65536 in
theorem w_ripe : about1.ripe theMethod args0 below0 = true := by decide +kernel
theorem w_running : about1.status = .running := rfl
set_option maxRecDepth 65536 in
theorem w_room : about1.hasRoom e0.platform room_1 = true :=
  launch0.hasRoom_least _ room_1 (by decide +kernel) (by decide +kernel) (by decide +kernel) (by decide +kernel) (by decide +kernel) (by decide +kernel)
theorem allAtoms_all (ts : List Jvm.Cond) (a : Array Jvm.Value) (st : Jvm.State) : (allAtoms ts).before a st = ts.all (fun c => c.before a st) := by
  induction ts with
  | nil => rfl
  | cons c t ih =>
    show (Jvm.Cond.and c (allAtoms t)).before a st = _
    rw [Jvm.Cond.before_and, ih, List.all_cons]
def words1 : List Jvm.Cond := Jvm.Cond.code x code maxLocals ret :: tables_1
/-- a 'code' word, met by the world's own term for the bytes: nothing is compared byte by byte -/
theorem code_word {y : MethodName} {bytes : ByteArray} {mx : Nat} {rt : Option FieldType} {a : Array Value} {s : State} {m : MethodId} {meth : Method} {c : Code} (h1 : s.methodNamed? y = some m) (h2 : s.vm.method? m = some meth) (h3 : meth.code = some c) (h4 : c.code = bytes)
    (h5 : (c.maxLocals == mx && c.exceptionTable.isEmpty && decide (c.maxStack ≤ mostOperands) && decide (meth.sig.returnType = rt) && !meth.locks && decide (parseMethodDescriptor y.desc = some meth.sig)) = true) : (Jvm.Cond.code y bytes mx rt).before a s = true := by
  simp only [Bool.and_eq_true, beq_iff_eq, Bool.not_eq_true', decide_eq_true_eq] at h5
  obtain ⟨⟨⟨⟨⟨g1, g2⟩, g3⟩, g4⟩, g5⟩, g6⟩ := h5
  simp [Cond.before, Cond.holds, Cond.value, h1, h2, h3, h4, g1, g2, g3, g4, g5, g6]
def isCode : Jvm.Cond → Bool
  | .code _ _ _ _ => true
  | _ => false
theorem all_split {L : List Jvm.Cond} {P : Jvm.Cond → Bool} (h1 : L.all (fun c => isCode c || P c) = true) (h2 : ∀ c ∈ L.filter isCode, P c = true) : L.all P = true := by
  refine List.all_eq_true.mpr fun c hc => ?_
  have h := List.all_eq_true.mp h1 c hc
  rcases Bool.eq_false_or_eq_true (isCode c) with hi | hi
  · exact h2 c (List.mem_filter.mpr ⟨hc, hi⟩)
  · simpa [hi] using h
set_option maxRecDepth 65536 in
theorem w_c0 : (Jvm.Cond.code x code maxLocals ret).before args0 about1 = true := code_word (m := ⟨1, 2⟩) (meth := k1m2) (c := k1c2) (by decide +kernel) rfl rfl rfl (by decide +kernel)
set_option maxRecDepth 65536 in
theorem w_c1 : (Jvm.Cond.code ({ cls := "com/example/docketline/docketline/lobster/EventType", name := "of", desc := "(J)Lcom/example/docketline/docketline/lobster/EventType;" } : Jvm.MethodName) prog_54_method_6_code (6 : Nat) (Option.some (Jvm.ClassFile.FieldType.object "com/example/docketline/docketline/lobster/EventType"))).before args0 about1 = true := code_word (m := ⟨6, 1⟩) (meth := k6m1) (c := k6c1) (by decide +kernel) rfl rfl rfl (by decide +kernel)
set_option maxRecDepth 65536 in
theorem w_c2 : (Jvm.Cond.code ({ cls := "com/example/docketline/docketline/lobster/EventType", name := "values", desc := "()[Lcom/example/docketline/docketline/lobster/EventType;" } : Jvm.MethodName) prog_54_method_1_code (0 : Nat) (Option.some (Jvm.ClassFile.FieldType.array (Jvm.ClassFile.FieldType.object "com/example/docketline/docketline/lobster/EventType")))).before args0 about1 = true := code_word (m := ⟨6, 0⟩) (meth := k6m0) (c := k6c0) (by decide +kernel) rfl rfl rfl (by decide +kernel)
set_option maxRecDepth 65536 in
theorem w_c3 : (Jvm.Cond.code ({ cls := "com/example/docketline/docketline/lobster/EventTypeOfPinLaw", name := "expected", desc := "(J)Lcom/example/docketline/docketline/lobster/EventType;" } : Jvm.MethodName) method_2_code (2 : Nat) (Option.some (Jvm.ClassFile.FieldType.object "com/example/docketline/docketline/lobster/EventType"))).before args0 about1 = true := code_word (m := ⟨1, 1⟩) (meth := k1m1) (c := k1c1) (by decide +kernel) rfl rfl rfl (by decide +kernel)
def codes1 : List Jvm.Cond := [Jvm.Cond.code x code maxLocals ret, Jvm.Cond.code ({ cls := "com/example/docketline/docketline/lobster/EventType", name := "of", desc := "(J)Lcom/example/docketline/docketline/lobster/EventType;" } : Jvm.MethodName) prog_54_method_6_code (6 : Nat) (Option.some (Jvm.ClassFile.FieldType.object "com/example/docketline/docketline/lobster/EventType")), Jvm.Cond.code ({ cls := "com/example/docketline/docketline/lobster/EventType", name := "values", desc := "()[Lcom/example/docketline/docketline/lobster/EventType;" } : Jvm.MethodName) prog_54_method_1_code (0 : Nat) (Option.some (Jvm.ClassFile.FieldType.array (Jvm.ClassFile.FieldType.object "com/example/docketline/docketline/lobster/EventType"))), Jvm.Cond.code ({ cls := "com/example/docketline/docketline/lobster/EventTypeOfPinLaw", name := "expected", desc := "(J)Lcom/example/docketline/docketline/lobster/EventType;" } : Jvm.MethodName) method_2_code (2 : Nat) (Option.some (Jvm.ClassFile.FieldType.object "com/example/docketline/docketline/lobster/EventType"))]
set_option maxRecDepth 65536 in
theorem codes_eq : words1.filter isCode = codes1 := rfl
theorem w_codes : ∀ c ∈ words1.filter isCode, c.before args0 about1 = true := by
  rw [codes_eq]
  intro c hc
  simp only [codes1, List.mem_cons, List.not_mem_nil, or_false] at hc
  rcases hc with rfl | rfl | rfl | rfl
  · exact w_c0
  · exact w_c1
  · exact w_c2
  · exact w_c3
set_option maxRecDepth 65536 in
theorem w_t1 : (words1.take 24).all (fun c => isCode c || c.before args0 about1) = true := by decide +kernel
set_option maxRecDepth 65536 in
theorem w_t2 : (words1.drop 24).all (fun c => isCode c || c.before args0 about1) = true := by decide +kernel
theorem w_tables : (allAtoms (Jvm.Cond.code x code maxLocals ret :: tables_1)).before args0 about1 = true := by
  rw [allAtoms_all]
  show words1.all (fun c => c.before args0 about1) = true
  refine all_split ?_ w_codes
  rw [← List.take_append_drop 24 words1, List.all_append, w_t1, w_t2]
  rfl
set_option maxRecDepth 65536 in
theorem w_case : (Jvm.Cond.and given_1 narrow_1).before args0 about1 = true := by decide +kernel
theorem w_applies : (headSpec (Jvm.Cond.code x code maxLocals ret :: tables_1) room_1).applies x e0.platform about1 = true :=
  (Spec.applies_iff w_frames).mpr ⟨w_running, w_runnable, w_alone, w_named, w_hears, w_ripe, w_room, w_tables⟩
theorem atStart : AtStart classFile x code maxLocals ret World_1 tables_1 room_1 Calls_1 rest_1 Pre_1 launch0 p0 e0 about1 theMethod args0 below0 :=
  ⟨lists_1, trivial, launch0.admits_env _ _ _, launch0.least_env, fairChoices_fair.cas, fairChoices_fair.clock, w_frames, w_args, w_heap, w_applies, trivial, trivial, w_case⟩
end start1
theorem witness_1 : WitnessClaimed_1 := ⟨start1.p0, start1.e0, start1.about1, start1.theMethod, start1.args0, start1.below0, start1.atStart⟩
end Jvm.Pilot.@@N@@
