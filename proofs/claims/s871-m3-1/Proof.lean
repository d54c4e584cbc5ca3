import JvmDerived
import JvmDerived.Pilot.@@N@@Statement
import JvmDerived.Pilot.@@N@@Code
set_option linter.unusedVariables false
set_option linter.unusedSimpArgs false
namespace Jvm.RoadKit
open Sem ClassFile Op Lib Jvm.Stand Jvm.Free Jvm.LawKit
section New
variable {p : Program} {l : Launch} {e : Env} {R : Room} {s : State} {m : MethodId} {args : Array Value} {below : List Frame} {meth : Method} {c : Code} {T : State} {locs : List Loc} {cells slots : Nat}
theorem retI (X : Stand p l e R s m args below meth c T locs cells slots) (hx : p.tables.exec = Jvm.exec) {pc : Nat} {Ls : Array Slot} {z : Int32} {rest : List Value} (hret : meth.sig.returnType = some .int) (hd : decode c.code pc = .ok (.ireturn, 1)) {fs : List Frame}
    (hl : ∀ (f : JFrame) (acts : List Action), f.method = m → f.locked = none → f.entered = [] → (doReturn e (T.setTop f) acts (some (.int z))).1 = T.setFrames fs) : Steps p.tables e below (T.setTop (mkF m pc Ls (.int z :: rest))) (T.setFrames fs) := by
  have hm' : T.vm.method? m = some meth := X.method'
  have hn : narrow .int (.int z) = .int z := rfl
  show Steps p.tables e below (T.setTop { method := m, pc := pc, locals := Ls, stack := _ :: rest, locked := none }) _
  jvm_step X.here [X.here.top, hx, hd, hm', hret, hn]
  first | (intro acts; rw [hl _ acts rfl rfl rfl]) | rw [hl _ _ rfl rfl rfl]
  exact Steps.refl _
end New
end Jvm.RoadKit
namespace Jvm.Pilot.@@N@@
open Jvm Jvm.ClassFile Sem Op Lib Jvm.Free Jvm.Stand Jvm.LawKit Jvm.RoadKit Bundle Jvm.Pilot.@@N@@.Jvm.D
theorem ow {Z : State} {a0 : Array Value} (hw : ∀ d ∈ tables_1, d.before a0 Z = true) (i : Nat) {d : Jvm.Cond} (h : tables_1[i]? = some d) : d.before a0 Z = true := hw _ (List.mem_of_getElem? h)
def own_b (P : Prop) [Decidable P] : Int32 := if P then 1 else 0
theorem own_b_t {P : Prop} [Decidable P] (h : P) : own_b P = 1 := if_pos h
theorem own_b_f {P : Prop} [Decidable P] (h : ¬ P) : own_b P = 0 := if_neg h
theorem own_b_nz {P : Prop} [Decidable P] (h : P) : ¬ (own_b P = (0 : Int32)) := by rw [own_b_t h]; decide
theorem own_b_nar (P : Prop) [Decidable P] : nar .boolean (own_b P) = own_b P := by
  by_cases h : P
  · rw [own_b_t h]; rfl
  · rw [own_b_f h]; rfl
theorem own_sel {Z s : State} {a0 args : Array Value} {y : MethodName} {n : Nat} (hZ : Z.Warmed39 s.vm) (wi : (Jvm.Cond.instantiable y.cls n).before a0 Z = true) (wp : (Jvm.Cond.privateMethod y).before a0 Z = true) (wm : (Jvm.Cond.instanceMethod y).before a0 Z = true) (hy : y.cls ≠ "java/lang/invoke/MethodHandle" ∧ y.cls ≠ "java/lang/invoke/VarHandle") : (Jvm.Cond.selects y.cls y y).before args s = true := by
  have wi' : (Jvm.Cond.instantiable y.cls n).before args s = true := mvT hZ wi
  obtain ⟨c, k, h1, h2, h3, h4, -⟩ := Cond.instantiable_spec wi'
  have h5 : k.isInterface = false := by
    cases hq : k.isInterface with
    | false => rfl
    | true => rw [hq] at h4; simp at h4
  exact Jvm.Stand.selects_self_of_private h1 h2 h5 (Cond.privateMethod_at (mvP hZ wp (args := args))) (mvT hZ wm) hy
theorem own_nf {s : State} {args : Array Value} {C : String} {y y' : MethodName} (w : (Jvm.Cond.selects C y' y').before args s = true) (e : y'.cls = y.cls) : NotFace s y := fun r0 h0 => by
  obtain ⟨c2, r2, m2, q1, q2, q3, q4, kP, hkP, hkPi⟩ := Cond.selects_spec w
  have h1 := findClass_of_methodNamed h0
  have h2 := findClass_of_methodNamed q3
  rw [e] at h2
  have h3 := Option.some.inj (h1.symm.trans h2)
  exact ⟨kP, by rw [h3]; exact hkP, hkPi⟩
theorem own_selN {Z s : State} {a0 args : Array Value} {y : MethodName} (hZ : Z.Warmed39 s.vm) (nf : NotFace s y) (wp : (Jvm.Cond.privateMethod y).before a0 Z = true) (wm : (Jvm.Cond.instanceMethod y).before a0 Z = true) (hy : y.cls ≠ "java/lang/invoke/MethodHandle" ∧ y.cls ≠ "java/lang/invoke/VarHandle") : (Jvm.Cond.selects y.cls y y).before args s = true := by
  have wm' : (Jvm.Cond.instanceMethod y).before args s = true := mvT hZ wm
  obtain ⟨mk, methM, hnamed, -⟩ := Cond.instanceMethod_spec wm'
  obtain ⟨k, hk, hki⟩ := nf mk hnamed
  exact Jvm.Stand.selects_self_of_private (findClass_of_methodNamed hnamed) hk hki (Cond.privateMethod_at (mvP hZ wp (args := args))) wm' hy
theorem own_b01 (P : Prop) [Decidable P] : own_b P = (0 : Int32) ∨ own_b P = (1 : Int32) := by
  by_cases h : P
  · exact Or.inr (own_b_t h)
  · exact Or.inl (own_b_f h)
theorem own_b_iff {P : Prop} [Decidable P] : own_b P = (0 : Int32) ↔ ¬ P := ⟨fun q h => own_b_nz h q, own_b_f⟩
theorem own_eqI {args : Array Value} {first s : State} {o : Option Outcome} {idx : List Nat} {a : Term} {n : Int32} (h : (Jvm.Cond.eq a (Term.int n)).value args first o s idx = some true) : a.eval args first o idx s = some (.int n) := by
  obtain ⟨x, y, ha, hb, k1, k2⟩ := cmp_v (Or.inl h)
  obtain rfl : y = .int n := (Option.some.inj ((Term.int_eval n).symm.trans hb)).symm
  obtain ⟨z, rfl⟩ := k2
  have q := gotT (Cond.eq_ints ha (Term.int_eval n)) h
  rw [ha, q]
theorem own_ne {s : State} {a b : Addr} {C n d : String} {x y : Int32} (h1 : s.fieldOf? a C n d = some (.int x)) (h2 : s.fieldOf? b C n d = some (.int y)) (h : x ≠ y) : a ≠ b := fun q => by
  subst q
  exact h (Value.int.inj (Option.some.inj (h1.symm.trans h2)))
theorem own_root {Z : State} {a0 : Array Value} {O K : String} {n : Nat} (w : (Jvm.Cond.noSuperclass O).before a0 Z = true) (wk : (Jvm.Cond.instantiable K n).before a0 Z = true) (hn : O ≠ K) : NS Z O K := by
  obtain ⟨c, k, h1, h2, h3, -, -⟩ := Cond.noSuperclass_spec w
  obtain ⟨t, k', g1, -⟩ := Cond.instantiable_spec wk
  have ne := ids_ne h1 g1 hn
  refine ⟨c, t, h1, g1, fun fuel => ?_⟩
  cases fuel with
  | zero => rfl
  | succ f => simp [Vm.isSubclassAux, ne, h2, h3]
theorem own_no {Z : State} {a0 : Array Value} {C S K : String} {i : Nat} (w : (Jvm.Cond.superclass C S).before a0 Z = true) (wk : (Jvm.Cond.instantiable K i).before a0 Z = true) (n : NS Z C K) (hn : C ≠ K) : ∃ c t, Z.vm.findClass C = some c ∧ Z.vm.findClass K = some t ∧ Z.vm.assignable c t = false := by
  obtain ⟨c, t, h0, g0, n3⟩ := n
  obtain ⟨p, k, kp, h1, h2, h3, h4, h5, -, h7⟩ := Cond.superclass_spec h0 w
  obtain ⟨t', k', g1, g2, g5, g7, -⟩ := Cond.instantiable_spec wk
  cases g0.symm.trans g1
  have g8 : k'.isInterface = false := by
    cases hq : k'.isInterface with
    | false => rfl
    | true => rw [hq] at g7; simp at g7
  have ne := ids_ne h0 g0 hn
  refine ⟨c, t, h0, g0, ?_⟩
  show Z.vm.assignableAux (255 + 1) c t = false
  simp [Vm.assignableAux, ne, h2, g2, h5, g5, g8, Vm.isSubclass, n3]
theorem own_cidx {cl : Cell} {x : Int32} (hs : cl.slots.size = 256) (h1 : ¬ (x < (-128 : Int32))) (h2 : ¬ ((127 : Int32) < x)) : ¬ ((x + (128 : Int32)) < 0 ∨ cl.slots.size ≤ (x + (128 : Int32)).toNatClampNeg) := by
  have e1 : (-128 : Int32).toInt = -128 := by decide
  have e2 : (127 : Int32).toInt = 127 := by decide
  have e3 : (128 : Int32).toInt = 128 := by decide
  have e0 : (0 : Int32).toInt = 0 := by decide
  have h3 := c_iadd x 128
  have r := rng32 (x + 128)
  rw [Int32.lt_iff_toInt_lt] at h1 h2
  rw [hs, Int32.lt_iff_toInt_lt]
  simp only [Int32.toNatClampNeg]
  omega
def own_cmp (a b : Int32) : Int32 := if a < b then (-1 : Int32) else if a = b then (0 : Int32) else (1 : Int32)
theorem own_cmp0 (a b : Int32) : own_cmp a b = (0 : Int32) ↔ a = b := by
  unfold own_cmp
  by_cases h1 : a < b
  · rw [if_pos h1]
    exact ⟨fun q => absurd q (by decide), fun q => absurd h1 (q ▸ Int32.lt_irrefl)⟩
  · rw [if_neg h1]
    by_cases h2 : a = b
    · rw [if_pos h2]; exact ⟨fun _ => h2, fun _ => rfl⟩
    · rw [if_neg h2]; exact ⟨fun q => absurd q (by decide), fun q => absurd q h2⟩
def own_hash (x y : Int32) : Int32 := ((((x * (-1640531527 : Int32)) + y) ^^^ ((((x * (-1640531527 : Int32)) + y).toUInt32 >>> ((16 : Int32) &&& 31).toUInt32).toInt32)) * (-1640531527 : Int32))
theorem own_bc {P Q : Prop} [Decidable P] [Decidable Q] (h : P ↔ Q) : own_b P = own_b Q := by
  by_cases q : P
  · rw [own_b_t q, own_b_t (h.mp q)]
  · rw [own_b_f q, own_b_f (fun z => q (h.mpr z))]
theorem own_c3 (x1 y1 x2 y2 : Int32) : ((if x1 = x2 then (own_cmp y1 y2) else (own_cmp x1 x2)) = (0 : Int32)) ↔ (x2 = x1 ∧ y2 = y1) := by
  by_cases h : x1 = x2
  · rw [if_pos h, own_cmp0]; exact ⟨fun q => ⟨h.symm, q.symm⟩, fun q => q.2.symm⟩
  · rw [if_neg h, own_cmp0]; exact ⟨fun q => absurd q h, fun q => absurd q.1.symm h⟩
theorem own_sw (x1 y1 x2 y2 : Int32) : (x2 = x1 ∧ y2 = y1) ↔ (x1 = x2 ∧ y1 = y2) := ⟨fun q => ⟨q.1.symm, q.2.symm⟩, fun q => ⟨q.1.symm, q.2.symm⟩⟩
theorem own_len {s : State} {args : Array Value} {t : Term} {a : Addr} {cl : Cell} {ty : FieldType} (ev : t.eval args s none [] s = some (.ref a)) (A : Arr s s.heap a cl ty) (h : (Jvm.Cond.eq (Term.length t) (Term.int (256 : Int32))).before args s = true) : cl.slots.size = 256 := by
  obtain ⟨h1, h2⟩ := Jvm.Free.IntBox.length_fwd h ev A.1 A.2.1 A.2.2
  have e := len_toInt h1
  rw [h2] at e
  have e2 : ((256 : Int32)).toInt = 256 := by decide
  omega
theorem own_cache {s : State} {args : Array Value} {C n d : String} {a : Addr} {cl : Cell} {ty : FieldType} (ev : (Term.static C n d).eval args s none [] s = some (.ref a)) (A : Arr s s.heap a cl ty) {c2 : Jvm.Cond}
    (h : (Jvm.Cond.all (Term.static C n d) (Jvm.Cond.and (Jvm.Cond.exactly (Term.elem (Term.static C n d) (Term.index 0)) "java/lang/Integer") c2)).value args s none s [] = some true) : ∀ j : Int32, ¬ (j < 0 ∨ cl.slots.size ≤ j.toNatClampNeg) → ∃ b, cl.slots[j.toNatClampNeg]? = some (.ref b) ∧ Exa s s.heap b "java/lang/Integer" := by
  have hat := Jvm.Free.IntBox.arrayAt_of A.1 A.2.1 A.2.2
  have hall := Cond.all_elim ev hat h
  intro j hj
  have hlt : j.toNatClampNeg < cl.slots.size := Nat.lt_of_not_le fun q => hj (Or.inr q)
  obtain ⟨h1, -⟩ := and_e (hall _ hlt)
  have hj0 : ¬ j < 0 := fun q => hj (Or.inl q)
  have evC : (Term.static C n d).eval args s none [j.toNatClampNeg] s = some (.ref a) := ev
  obtain ⟨b, eb⟩ := exa_v h1
  have q := elem_f evC (idx_at hj0) hat hj0
  exact ⟨b, q.symm.trans eb, exa_at eb h1⟩
theorem pn0 : plainName "java/lang/Record" = true := by first | (simp [plainName, overriddenIn]; done) | decide +kernel
theorem d2_0 : decode jdk_30_method_1_code 0 = .ok (.aload_n 0, 1) := by decide +kernel
theorem d2_1 : decode jdk_30_method_1_code 1 = .ok (.invokespecial 1, 3) := by decide +kernel
theorem d2_4 : decode jdk_30_method_1_code 4 = .ok (.return_, 1) := by decide +kernel
theorem ef2 (m : MethodId) (a1 : Addr) : entryFrame m #[(.ref a1)] 1 = mkF m 0 #[.val (.ref a1)] [] := by first | (simp [entryFrame, mkF, argsToLocals, Value.category]; done) | rfl
def Q2 (Z : State) (a1 : Addr) (h0 : Heap) (n0 : Nat) (v : Option Value) (h : Heap) (L : List Loc) : Prop := v = none ∧ Fr n0 L ∧ h = h0
set_option maxRecDepth 65536 in
set_option maxHeartbeats 40000000 in
theorem rm2 (l : Launch) (Z : State) (a0 : Array Value) (hw : ∀ d ∈ tables_1, d.before a0 Z = true) (ws : List Jvm.Cond) (a1 : Addr) (h0 : Heap) (n0 : Nat) (Z0 : n0 ≤ h0.size) :
    MetFree l (⟨"java/lang/Record", "<init>", "()V"⟩ : MethodName) (head1 (Jvm.Cond.code (⟨"java/lang/Record", "<init>", "()V"⟩ : MethodName) jdk_30_method_1_code 1 none :: ws) ({ frames := 1, cells := 0, slots := 0, locals := 12 } : Room)) (fun a U => a = #[(.ref a1)] ∧ Z.Warmed39 U.vm ∧ U.heap = h0) (fun _ _ _ _ _ => True) (fun _ U o U' => ∃ v L, o = .returned v ∧ Q2 Z a1 h0 n0 v U'.heap L ∧ FrameEnd U o U' L ({ frames := 1, cells := 0, slots := 0, locals := 12 } : Room).cells ({ frames := 1, cells := 0, slots := 0, locals := 12 } : Room).slots) := by
  refine MetFree.of_bodySF (plainFor_of_name pn0) hisR ?_
  intro p e s m args below meth c s₁ Bd hml0 hP hK
  obtain ⟨rfl, hZ, hh⟩ := hP
  have hx := Bd.exec
  have hby := Bd.bytes
  have hml : c.maxLocals = 1 := hml0
  have hown : s.vm.findClass "java/lang/Record" = some m.cls := findClass_of_methodNamed Bd.named
  have hnm := (name_of_methodNamed Bd.named Bd.method).1
  have X0 : Stand p l e ({ frames := 1, cells := 0, slots := 0, locals := 12 } : Room) s m #[(.ref a1)] below meth c s₁ [] 0 0 := Stand.of_body Bd
  have e0 : s₁.heap = h0 := by rw [← hh, Bd.state]; rfl
  have N0 := Fr.nil n0
  have pre0 : ∀ t, Steps p.tables e below (s₁.setTop (mkF m 0 #[.val (.ref a1)] [])) t → Steps p.tables e below (s₁.setTop (entryFrame m #[(.ref a1)] 1)) t := fun t k => castTop (ef2 m a1) k
  obtain ⟨T1, X1, e1, st1⟩ := initO X0 hx hZ hown (ow hw 11 rfl) (ow hw 12 rfl) (ow hw 13 rfl) e0 (g := (mkF m 1 #[.val (.ref a1)] [(.ref a1)])) rfl (by rw [hml]; rfl) rfl (hb hby d2_1) (by decide) (W := 0) (by show 2 * 0 + _ ≤ _; exact Nat.le_of_eq rfl) (by decide)
  obtain ⟨fs, hr, hrun, hended, hW, hsame⟩ := X1.leave (v := none) (fun _ => rfl)
  refine ⟨_, _, pre0 _ ?_, hrun, hended, _, _, rfl, ?_, ⟨_, rfl⟩, hW, hsame.mono (by decide) (by decide)⟩
  · show Steps p.tables e below (s₁.setTop (mkF m 0 #[.val (.ref a1)] [])) _
    refine XS.aloadN X0.here hx rfl (hb hby d2_0) rfl rfl ?_
    show Steps p.tables e below (s₁.setTop (mkF m 1 #[.val (.ref a1)] [(.ref a1)])) _
    refine st1 _ ?_
    show Steps p.tables e below (T1.setTop (mkF m 4 #[.val (.ref a1)] [])) _
    exact X1.returnOut hx Bd.returns (hb hby d2_4) hr
  · show Q2 Z a1 h0 n0 _ T1.heap _
    rw [e1]
    exact ⟨rfl, N0, rfl⟩
theorem pn1 : plainName "java/lang/Number" = true := by first | (simp [plainName, overriddenIn]; done) | decide +kernel
theorem d10_0 : decode jdk_18_method_1_code 0 = .ok (.aload_n 0, 1) := by decide +kernel
theorem d10_1 : decode jdk_18_method_1_code 1 = .ok (.invokespecial 1, 3) := by decide +kernel
theorem d10_4 : decode jdk_18_method_1_code 4 = .ok (.return_, 1) := by decide +kernel
theorem ef10 (m : MethodId) (a1 : Addr) : entryFrame m #[(.ref a1)] 1 = mkF m 0 #[.val (.ref a1)] [] := by first | (simp [entryFrame, mkF, argsToLocals, Value.category]; done) | rfl
def Q10 (Z : State) (a1 : Addr) (h0 : Heap) (n0 : Nat) (v : Option Value) (h : Heap) (L : List Loc) : Prop := v = none ∧ Fr n0 L ∧ h = h0
set_option maxRecDepth 65536 in
set_option maxHeartbeats 40000000 in
theorem rm10 (l : Launch) (Z : State) (a0 : Array Value) (hw : ∀ d ∈ tables_1, d.before a0 Z = true) (ws : List Jvm.Cond) (a1 : Addr) (h0 : Heap) (n0 : Nat) (Z0 : n0 ≤ h0.size) :
    MetFree l (⟨"java/lang/Number", "<init>", "()V"⟩ : MethodName) (head1 (Jvm.Cond.code (⟨"java/lang/Number", "<init>", "()V"⟩ : MethodName) jdk_18_method_1_code 1 none :: ws) ({ frames := 1, cells := 0, slots := 0, locals := 12 } : Room)) (fun a U => a = #[(.ref a1)] ∧ Z.Warmed39 U.vm ∧ U.heap = h0) (fun _ _ _ _ _ => True) (fun _ U o U' => ∃ v L, o = .returned v ∧ Q10 Z a1 h0 n0 v U'.heap L ∧ FrameEnd U o U' L ({ frames := 1, cells := 0, slots := 0, locals := 12 } : Room).cells ({ frames := 1, cells := 0, slots := 0, locals := 12 } : Room).slots) := by
  refine MetFree.of_bodySF (plainFor_of_name pn1) hisR ?_
  intro p e s m args below meth c s₁ Bd hml0 hP hK
  obtain ⟨rfl, hZ, hh⟩ := hP
  have hx := Bd.exec
  have hby := Bd.bytes
  have hml : c.maxLocals = 1 := hml0
  have hown : s.vm.findClass "java/lang/Number" = some m.cls := findClass_of_methodNamed Bd.named
  have hnm := (name_of_methodNamed Bd.named Bd.method).1
  have X0 : Stand p l e ({ frames := 1, cells := 0, slots := 0, locals := 12 } : Room) s m #[(.ref a1)] below meth c s₁ [] 0 0 := Stand.of_body Bd
  have e0 : s₁.heap = h0 := by rw [← hh, Bd.state]; rfl
  have N0 := Fr.nil n0
  have pre0 : ∀ t, Steps p.tables e below (s₁.setTop (mkF m 0 #[.val (.ref a1)] [])) t → Steps p.tables e below (s₁.setTop (entryFrame m #[(.ref a1)] 1)) t := fun t k => castTop (ef10 m a1) k
  obtain ⟨T1, X1, e1, st1⟩ := initO X0 hx hZ hown (ow hw 61 rfl) (ow hw 12 rfl) (ow hw 13 rfl) e0 (g := (mkF m 1 #[.val (.ref a1)] [(.ref a1)])) rfl (by rw [hml]; rfl) rfl (hb hby d10_1) (by decide) (W := 0) (by show 2 * 0 + _ ≤ _; exact Nat.le_of_eq rfl) (by decide)
  obtain ⟨fs, hr, hrun, hended, hW, hsame⟩ := X1.leave (v := none) (fun _ => rfl)
  refine ⟨_, _, pre0 _ ?_, hrun, hended, _, _, rfl, ?_, ⟨_, rfl⟩, hW, hsame.mono (by decide) (by decide)⟩
  · show Steps p.tables e below (s₁.setTop (mkF m 0 #[.val (.ref a1)] [])) _
    refine XS.aloadN X0.here hx rfl (hb hby d10_0) rfl rfl ?_
    show Steps p.tables e below (s₁.setTop (mkF m 1 #[.val (.ref a1)] [(.ref a1)])) _
    refine st1 _ ?_
    show Steps p.tables e below (T1.setTop (mkF m 4 #[.val (.ref a1)] [])) _
    exact X1.returnOut hx Bd.returns (hb hby d10_4) hr
  · show Q10 Z a1 h0 n0 _ T1.heap _
    rw [e1]
    exact ⟨rfl, N0, rfl⟩
theorem pn2 : plainName "com/example/tackboard/tackboard/core/Pin" = true := by first | (simp [plainName, overriddenIn]; done) | decide +kernel
theorem d1_0 : decode prog_30_method_1_code 0 = .ok (.aload_n 0, 1) := by decide +kernel
theorem d1_1 : decode prog_30_method_1_code 1 = .ok (.invokespecial 1, 3) := by decide +kernel
theorem pd3 : parseMethodDescriptor "()V" = some ⟨[], none⟩ := by decide +kernel
theorem d1_4 : decode prog_30_method_1_code 4 = .ok (.aload_n 0, 1) := by decide +kernel
theorem d1_5 : decode prog_30_method_1_code 5 = .ok (.iload_n 1, 1) := by decide +kernel
theorem d1_6 : decode prog_30_method_1_code 6 = .ok (.putfield 7, 3) := by decide +kernel
theorem d1_9 : decode prog_30_method_1_code 9 = .ok (.aload_n 0, 1) := by decide +kernel
theorem d1_10 : decode prog_30_method_1_code 10 = .ok (.iload_n 2, 1) := by decide +kernel
theorem d1_11 : decode prog_30_method_1_code 11 = .ok (.putfield 13, 3) := by decide +kernel
theorem d1_14 : decode prog_30_method_1_code 14 = .ok (.return_, 1) := by decide +kernel
theorem ef1 (m : MethodId) (a1 : Addr) (p1 : Int32) (p2 : Int32) : entryFrame m #[(.ref a1), (.int p1), (.int p2)] 3 = mkF m 0 #[.val (.ref a1), .val (.int p1), .val (.int p2)] [] := by first | (simp [entryFrame, mkF, argsToLocals, Value.category]; done) | rfl
def Q1 (Z : State) (a1 : Addr) (p1 : Int32) (p2 : Int32) (u1 : Value) (u2 : Value) (h0 : Heap) (n0 : Nat) (v : Option Value) (h : Heap) (L : List Loc) : Prop := v = none ∧ Fr n0 L ∧ Keep h0 h [a1] ∧ Exa Z h a1 "com/example/tackboard/tackboard/core/Pin" ∧ Fld Z h a1 "com/example/tackboard/tackboard/core/Pin" "x" "I" (.int p1) ∧ Fld Z h a1 "com/example/tackboard/tackboard/core/Pin" "y" "I" (.int p2)
set_option maxRecDepth 65536 in
set_option maxHeartbeats 40000000 in
theorem rm1 (l : Launch) (Z : State) (a0 : Array Value) (hw : ∀ d ∈ tables_1, d.before a0 Z = true) (ws : List Jvm.Cond) (a1 : Addr) (p1 : Int32) (p2 : Int32) (u1 : Value) (u2 : Value) (h0 : Heap) (n0 : Nat) (Z0 : n0 ≤ h0.size) (E1 : Exa Z h0 a1 "com/example/tackboard/tackboard/core/Pin") (F1 : Fld Z h0 a1 "com/example/tackboard/tackboard/core/Pin" "x" "I" u1) (F2 : Fld Z h0 a1 "com/example/tackboard/tackboard/core/Pin" "y" "I" u2) (g1 : n0 ≤ a1) :
    MetFree l (⟨"com/example/tackboard/tackboard/core/Pin", "<init>", "(II)V"⟩ : MethodName) (head1 (Jvm.Cond.code (⟨"com/example/tackboard/tackboard/core/Pin", "<init>", "(II)V"⟩ : MethodName) prog_30_method_1_code 3 none :: ws) ({ frames := 2, cells := 0, slots := 0, locals := 24 } : Room)) (fun a U => a = #[(.ref a1), (.int p1), (.int p2)] ∧ Z.Warmed39 U.vm ∧ U.heap = h0) (fun _ _ _ _ _ => True) (fun _ U o U' => ∃ v L, o = .returned v ∧ Q1 Z a1 p1 p2 u1 u2 h0 n0 v U'.heap L ∧ FrameEnd U o U' L ({ frames := 2, cells := 0, slots := 0, locals := 24 } : Room).cells ({ frames := 2, cells := 0, slots := 0, locals := 24 } : Room).slots) := by
  refine MetFree.of_bodySF (plainFor_of_name pn2) hisR ?_
  intro p e s m args below meth c s₁ Bd hml0 hP hK
  obtain ⟨rfl, hZ, hh⟩ := hP
  have hx := Bd.exec
  have hby := Bd.bytes
  have hml : c.maxLocals = 3 := hml0
  have hown : s.vm.findClass "com/example/tackboard/tackboard/core/Pin" = some m.cls := findClass_of_methodNamed Bd.named
  have hnm := (name_of_methodNamed Bd.named Bd.method).1
  have X0 : Stand p l e ({ frames := 2, cells := 0, slots := 0, locals := 24 } : Room) s m #[(.ref a1), (.int p1), (.int p2)] below meth c s₁ [] 0 0 := Stand.of_body Bd
  have e0 : s₁.heap = h0 := by rw [← hh, Bd.state]; rfl
  have N0 := Fr.nil n0
  have pre0 : ∀ t, Steps p.tables e below (s₁.setTop (mkF m 0 #[.val (.ref a1), .val (.int p1), .val (.int p2)] [])) t → Steps p.tables e below (s₁.setTop (entryFrame m #[(.ref a1), (.int p1), (.int p2)] 3)) t := fun t k => castTop (ef1 m a1 p1 p2) k
  obtain ⟨_, _, ⟨T1, L1, k1, n1⟩, -, X1, ⟨Lc1, hQ1, l1, y1, z1⟩, st1⟩ := X0.specialBack hx (y := (⟨"java/lang/Record", "<init>", "()V"⟩ : MethodName)) rfl hown (mvT hZ (ow hw 6 rfl)) (mvT hZ (ow hw 7 rfl)) (mvT hZ (ow hw 10 rfl)) (by decide) (backOf (W := 0) (rm2 l Z a0 hw [] a1 h0 n0 Z0 ) hZ (ow hw 10 rfl) (ow hw 9 rfl) (by decide) (by decide)) (g := (mkF m 1 #[.val (.ref a1), .val (.int p1), .val (.int p2)] [(.ref a1)])) rfl (by rw [hml]; rfl) (Steps.refl _) (a := a1) (argsL := []) (rest := []) (lenOf pd3 rfl) rfl (by show 2 * 0 + _ ≤ _; exact Nat.le_of_eq rfl) (hb hby d1_1) (fun _ _ => ⟨rfl, e0, (by decide : 0 + 0 ≤ _), (by decide : 0 + 0 ≤ _)⟩)
  dsimp only [Pt.U, Pt.locs, Pt.cells, Pt.slots] at X1 l1 y1 z1 st1 hQ1
  subst l1 y1 z1
  obtain ⟨rfl, N1q, e1⟩ := hQ1
  have N1 := Fr.app N0 N1q
  obtain ⟨T2, h2, X2, e2, W2, st2⟩ := putF X1 hx hZ hown (host := "") (Or.inl (ow hw 14 rfl)) Via.refl e1 F1 E1 (Or.inr ⟨(ow hw 15 rfl), rfl, hnm⟩) (ow hw 1 rfl) (ty := .int) (by decide) rfl rfl (g := (mkF m 6 #[.val (.ref a1), .val (.int p1), .val (.int p2)] [(.int p1), (.ref a1)])) rfl rfl (hb hby d1_6)
  have fw2 : Fld Z h2 a1 "com/example/tackboard/tackboard/core/Pin" "x" "I" (.int p1) := F1.same W2
  have Z3 : n0 ≤ h2.size := Nat.le_trans Z0 (Nat.le_of_eq W2.size.symm)
  have K4 : Keep h0 h2 [a1] := (Keep.refl h0 [a1]).wr W2 (Or.inl (List.mem_of_getElem? (i := 0) rfl))
  have N2 := Fr.snoc X2 N1 g1
  have fa5 : Fld Z h2 a1 "com/example/tackboard/tackboard/core/Pin" "y" "I" u2 := (F2.other W2 (Or.inr (slot_ne (Or.inr (ow hw 17 rfl)) (Or.inr (ow hw 15 rfl)) (by decide) (t := .int) (t' := .int) (by decide) (by decide))))
  have fa6 : Exa Z h2 a1 "com/example/tackboard/tackboard/core/Pin" := (E1.wr W2)
  obtain ⟨T7, h7, X7, e7, W7, st7⟩ := putF X2 hx hZ hown (host := "") (Or.inl (ow hw 16 rfl)) Via.refl e2 fa5 fa6 (Or.inr ⟨(ow hw 17 rfl), rfl, hnm⟩) (ow hw 1 rfl) (ty := .int) (by decide) rfl rfl (g := (mkF m 11 #[.val (.ref a1), .val (.int p1), .val (.int p2)] [(.int p2), (.ref a1)])) rfl rfl (hb hby d1_11)
  have fw7 : Fld Z h7 a1 "com/example/tackboard/tackboard/core/Pin" "y" "I" (.int p2) := fa5.same W7
  have Z8 : n0 ≤ h7.size := Nat.le_trans Z3 (Nat.le_of_eq W7.size.symm)
  have K9 : Keep h0 h7 [a1] := K4.wr W7 (Or.inl (List.mem_of_getElem? (i := 0) rfl))
  have N7 := Fr.snoc X7 N2 g1
  obtain ⟨fs, hr, hrun, hended, hW, hsame⟩ := X7.leave (v := none) (fun _ => rfl)
  have fa10 : Exa Z h7 a1 "com/example/tackboard/tackboard/core/Pin" := (fa6.wr W7)
  have fa11 : Fld Z h7 a1 "com/example/tackboard/tackboard/core/Pin" "x" "I" (.int p1) := (fw2.other W7 (Or.inr (slot_ne (Or.inr (ow hw 15 rfl)) (Or.inr (ow hw 17 rfl)) (by decide) (t := .int) (t' := .int) (by decide) (by decide))))
  refine ⟨_, _, pre0 _ ?_, hrun, hended, _, _, rfl, ?_, ⟨_, rfl⟩, hW, hsame.mono (by decide) (by decide)⟩
  · show Steps p.tables e below (s₁.setTop (mkF m 0 #[.val (.ref a1), .val (.int p1), .val (.int p2)] [])) _
    refine XS.aloadN X0.here hx rfl (hb hby d1_0) rfl rfl ?_
    show Steps p.tables e below (s₁.setTop (mkF m 1 #[.val (.ref a1), .val (.int p1), .val (.int p2)] [(.ref a1)])) _
    refine st1.trans ?_
    show Steps p.tables e below (T1.setTop (mkF m 4 #[.val (.ref a1), .val (.int p1), .val (.int p2)] [])) _
    refine XS.aloadN X1.here hx rfl (hb hby d1_4) rfl rfl ?_
    show Steps p.tables e below (T1.setTop (mkF m 5 #[.val (.ref a1), .val (.int p1), .val (.int p2)] [(.ref a1)])) _
    refine XS.iloadN X1.here hx rfl (hb hby d1_5) rfl  ?_
    show Steps p.tables e below (T1.setTop (mkF m 6 #[.val (.ref a1), .val (.int p1), .val (.int p2)] [(.int p1), (.ref a1)])) _
    refine st2 _ ?_
    show Steps p.tables e below (T2.setTop (mkF m 9 #[.val (.ref a1), .val (.int p1), .val (.int p2)] [])) _
    refine XS.aloadN X2.here hx rfl (hb hby d1_9) rfl rfl ?_
    show Steps p.tables e below (T2.setTop (mkF m 10 #[.val (.ref a1), .val (.int p1), .val (.int p2)] [(.ref a1)])) _
    refine XS.iloadN X2.here hx rfl (hb hby d1_10) rfl  ?_
    show Steps p.tables e below (T2.setTop (mkF m 11 #[.val (.ref a1), .val (.int p1), .val (.int p2)] [(.int p2), (.ref a1)])) _
    refine st7 _ ?_
    show Steps p.tables e below (T7.setTop (mkF m 14 #[.val (.ref a1), .val (.int p1), .val (.int p2)] [])) _
    exact X7.returnOut hx Bd.returns (hb hby d1_14) hr
  · show Q1 Z a1 p1 p2 u1 u2 h0 n0 _ T7.heap _
    rw [e7]
    exact ⟨rfl, N7, K9, fa10, fa11, fw7⟩
theorem pn4 : plainName "java/lang/Integer" = true := by first | (simp [plainName, overriddenIn]; done) | decide +kernel
theorem d9_0 : decode jdk_33_method_23_code 0 = .ok (.aload_n 0, 1) := by decide +kernel
theorem d9_1 : decode jdk_33_method_23_code 1 = .ok (.invokespecial 202, 3) := by decide +kernel
theorem d9_4 : decode jdk_33_method_23_code 4 = .ok (.aload_n 0, 1) := by decide +kernel
theorem d9_5 : decode jdk_33_method_23_code 5 = .ok (.iload_n 1, 1) := by decide +kernel
theorem d9_6 : decode jdk_33_method_23_code 6 = .ok (.putfield 205, 3) := by decide +kernel
theorem d9_9 : decode jdk_33_method_23_code 9 = .ok (.return_, 1) := by decide +kernel
theorem ef9 (m : MethodId) (a1 : Addr) (p1 : Int32) : entryFrame m #[(.ref a1), (.int p1)] 2 = mkF m 0 #[.val (.ref a1), .val (.int p1)] [] := by first | (simp [entryFrame, mkF, argsToLocals, Value.category]; done) | rfl
def Q9 (Z : State) (a1 : Addr) (p1 : Int32) (u1 : Value) (h0 : Heap) (n0 : Nat) (v : Option Value) (h : Heap) (L : List Loc) : Prop := v = none ∧ Fr n0 L ∧ Keep h0 h [a1] ∧ Exa Z h a1 "java/lang/Integer"
set_option maxRecDepth 65536 in
set_option maxHeartbeats 40000000 in
theorem rm9 (l : Launch) (Z : State) (a0 : Array Value) (hw : ∀ d ∈ tables_1, d.before a0 Z = true) (ws : List Jvm.Cond) (a1 : Addr) (p1 : Int32) (u1 : Value) (h0 : Heap) (n0 : Nat) (Z0 : n0 ≤ h0.size) (E1 : Exa Z h0 a1 "java/lang/Integer") (F1 : Fld Z h0 a1 "java/lang/Integer" "value" "I" u1) (g1 : n0 ≤ a1) :
    MetFree l (⟨"java/lang/Integer", "<init>", "(I)V"⟩ : MethodName) (head1 (Jvm.Cond.code (⟨"java/lang/Integer", "<init>", "(I)V"⟩ : MethodName) jdk_33_method_23_code 2 none :: ws) ({ frames := 2, cells := 0, slots := 0, locals := 24 } : Room)) (fun a U => a = #[(.ref a1), (.int p1)] ∧ Z.Warmed39 U.vm ∧ U.heap = h0) (fun _ _ _ _ _ => True) (fun _ U o U' => ∃ v L, o = .returned v ∧ Q9 Z a1 p1 u1 h0 n0 v U'.heap L ∧ FrameEnd U o U' L ({ frames := 2, cells := 0, slots := 0, locals := 24 } : Room).cells ({ frames := 2, cells := 0, slots := 0, locals := 24 } : Room).slots) := by
  refine MetFree.of_bodySF (plainFor_of_name pn4) hisR ?_
  intro p e s m args below meth c s₁ Bd hml0 hP hK
  obtain ⟨rfl, hZ, hh⟩ := hP
  have hx := Bd.exec
  have hby := Bd.bytes
  have hml : c.maxLocals = 2 := hml0
  have hown : s.vm.findClass "java/lang/Integer" = some m.cls := findClass_of_methodNamed Bd.named
  have hnm := (name_of_methodNamed Bd.named Bd.method).1
  have X0 : Stand p l e ({ frames := 2, cells := 0, slots := 0, locals := 24 } : Room) s m #[(.ref a1), (.int p1)] below meth c s₁ [] 0 0 := Stand.of_body Bd
  have e0 : s₁.heap = h0 := by rw [← hh, Bd.state]; rfl
  have N0 := Fr.nil n0
  have pre0 : ∀ t, Steps p.tables e below (s₁.setTop (mkF m 0 #[.val (.ref a1), .val (.int p1)] [])) t → Steps p.tables e below (s₁.setTop (entryFrame m #[(.ref a1), (.int p1)] 2)) t := fun t k => castTop (ef9 m a1 p1) k
  obtain ⟨_, _, ⟨T1, L1, k1, n1⟩, -, X1, ⟨Lc1, hQ1, l1, y1, z1⟩, st1⟩ := X0.specialBack hx (y := (⟨"java/lang/Number", "<init>", "()V"⟩ : MethodName)) rfl hown (mvT hZ (ow hw 55 rfl)) (mvT hZ (ow hw 56 rfl)) (mvT hZ (ow hw 60 rfl)) (by decide) (backOf (W := 0) (rm10 l Z a0 hw [] a1 h0 n0 Z0 ) hZ (ow hw 60 rfl) (ow hw 59 rfl) (by decide) (by decide)) (g := (mkF m 1 #[.val (.ref a1), .val (.int p1)] [(.ref a1)])) rfl (by rw [hml]; rfl) (Steps.refl _) (a := a1) (argsL := []) (rest := []) (lenOf pd3 rfl) rfl (by show 2 * 0 + _ ≤ _; exact Nat.le_of_eq rfl) (hb hby d9_1) (fun _ _ => ⟨rfl, e0, (by decide : 0 + 0 ≤ _), (by decide : 0 + 0 ≤ _)⟩)
  dsimp only [Pt.U, Pt.locs, Pt.cells, Pt.slots] at X1 l1 y1 z1 st1 hQ1
  subst l1 y1 z1
  obtain ⟨rfl, N1q, e1⟩ := hQ1
  have N1 := Fr.app N0 N1q
  obtain ⟨T2, h2, X2, e2, W2, st2⟩ := putF X1 hx hZ hown (host := "") (Or.inl (ow hw 62 rfl)) Via.refl e1 F1 E1 (Or.inr ⟨(ow hw 63 rfl), rfl, hnm⟩) (ow hw 50 rfl) (ty := .int) (by decide) rfl rfl (g := (mkF m 6 #[.val (.ref a1), .val (.int p1)] [(.int p1), (.ref a1)])) rfl rfl (hb hby d9_6)
  have fw2 : Fld Z h2 a1 "java/lang/Integer" "value" "I" (.int p1) := F1.same W2
  have Z3 : n0 ≤ h2.size := Nat.le_trans Z0 (Nat.le_of_eq W2.size.symm)
  have K4 : Keep h0 h2 [a1] := (Keep.refl h0 [a1]).wr W2 (Or.inl (List.mem_of_getElem? (i := 0) rfl))
  have N2 := Fr.snoc X2 N1 g1
  obtain ⟨fs, hr, hrun, hended, hW, hsame⟩ := X2.leave (v := none) (fun _ => rfl)
  have fa5 : Exa Z h2 a1 "java/lang/Integer" := (E1.wr W2)
  refine ⟨_, _, pre0 _ ?_, hrun, hended, _, _, rfl, ?_, ⟨_, rfl⟩, hW, hsame.mono (by decide) (by decide)⟩
  · show Steps p.tables e below (s₁.setTop (mkF m 0 #[.val (.ref a1), .val (.int p1)] [])) _
    refine XS.aloadN X0.here hx rfl (hb hby d9_0) rfl rfl ?_
    show Steps p.tables e below (s₁.setTop (mkF m 1 #[.val (.ref a1), .val (.int p1)] [(.ref a1)])) _
    refine st1.trans ?_
    show Steps p.tables e below (T1.setTop (mkF m 4 #[.val (.ref a1), .val (.int p1)] [])) _
    refine XS.aloadN X1.here hx rfl (hb hby d9_4) rfl rfl ?_
    show Steps p.tables e below (T1.setTop (mkF m 5 #[.val (.ref a1), .val (.int p1)] [(.ref a1)])) _
    refine XS.iloadN X1.here hx rfl (hb hby d9_5) rfl  ?_
    show Steps p.tables e below (T1.setTop (mkF m 6 #[.val (.ref a1), .val (.int p1)] [(.int p1), (.ref a1)])) _
    refine st2 _ ?_
    show Steps p.tables e below (T2.setTop (mkF m 9 #[.val (.ref a1), .val (.int p1)] [])) _
    exact X2.returnOut hx Bd.returns (hb hby d9_9) hr
  · show Q9 Z a1 p1 u1 h0 n0 _ T2.heap _
    rw [e2]
    exact ⟨rfl, N2, K4, fa5⟩
theorem d4_0 : decode jdk_33_method_22_code 0 = .ok (.iload_n 0, 1) := by decide +kernel
theorem d4_1 : decode jdk_33_method_22_code 1 = .ok (.bipush (-128), 2) := by decide +kernel
theorem d4_3 : decode jdk_33_method_22_code 3 = .ok (.if_icmp .lt 20, 3) := by decide +kernel
theorem d4_23 : decode jdk_33_method_22_code 23 = .ok (.new 1, 3) := by decide +kernel
theorem d4_26 : decode jdk_33_method_22_code 26 = .ok (.dup, 1) := by decide +kernel
theorem d4_27 : decode jdk_33_method_22_code 27 = .ok (.iload_n 0, 1) := by decide +kernel
theorem d4_28 : decode jdk_33_method_22_code 28 = .ok (.invokespecial 199, 3) := by decide +kernel
theorem pd5 : parseMethodDescriptor "(I)V" = some ⟨[.int], none⟩ := by decide +kernel
theorem d4_31 : decode jdk_33_method_22_code 31 = .ok (.areturn, 1) := by decide +kernel
theorem d4_6 : decode jdk_33_method_22_code 6 = .ok (.iload_n 0, 1) := by decide +kernel
theorem d4_7 : decode jdk_33_method_22_code 7 = .ok (.getstatic 191, 3) := by decide +kernel
theorem d4_10 : decode jdk_33_method_22_code 10 = .ok (.if_icmp .gt 13, 3) := by decide +kernel
theorem d4_13 : decode jdk_33_method_22_code 13 = .ok (.getstatic 195, 3) := by decide +kernel
theorem d4_16 : decode jdk_33_method_22_code 16 = .ok (.iload_n 0, 1) := by decide +kernel
theorem d4_17 : decode jdk_33_method_22_code 17 = .ok (.sipush 128, 3) := by decide +kernel
theorem d4_20 : decode jdk_33_method_22_code 20 = .ok (.iadd, 1) := by decide +kernel
theorem d4_21 : decode jdk_33_method_22_code 21 = .ok (.aaload, 1) := by decide +kernel
theorem d4_22 : decode jdk_33_method_22_code 22 = .ok (.areturn, 1) := by decide +kernel
theorem ef4 (m : MethodId) (p1 : Int32) : entryFrame m #[(.int p1)] 1 = mkF m 0 #[.val (.int p1)] [] := by first | (simp [entryFrame, mkF, argsToLocals, Value.category]; done) | rfl
def Q4 (Z : State) (p1 : Int32) (ca : Addr) (cl : Cell) (h0 : Heap) (n0 : Nat) (v : Option Value) (h : Heap) (L : List Loc) : Prop := ∃ (b : Addr), v = some (.ref b) ∧ Fr n0 L ∧ Keep h0 h [] ∧ Exa Z h b "java/lang/Integer"
set_option maxRecDepth 65536 in
set_option maxHeartbeats 40000000 in
theorem rm4 (l : Launch) (Z : State) (a0 : Array Value) (hw : ∀ d ∈ tables_1, d.before a0 Z = true) (ws : List Jvm.Cond) (p1 : Int32) (ca : Addr) (cl : Cell) (h0 : Heap) (n0 : Nat) (Z0 : n0 ≤ h0.size) (S1 : Sta Z Z.heap "java/lang/Integer$IntegerCache" "high" "I" (.int (127 : Int32))) (S2 : Sta Z Z.heap "java/lang/Integer$IntegerCache" "cache" "[Ljava/lang/Integer;" (.ref ca)) (A1 : Arr Z Z.heap ca cl (.object "java/lang/Integer")) (hsz : cl.slots.size = 256) (hcc : ∀ j : Int32, ¬ (j < 0 ∨ cl.slots.size ≤ j.toNatClampNeg) → ∃ b, cl.slots[j.toNatClampNeg]? = some (.ref b) ∧ Exa Z Z.heap b "java/lang/Integer") (O1 : Old Z n0 h0) :
    MetFree l (⟨"java/lang/Integer", "valueOf", "(I)Ljava/lang/Integer;"⟩ : MethodName) (head1 (Jvm.Cond.code (⟨"java/lang/Integer", "valueOf", "(I)Ljava/lang/Integer;"⟩ : MethodName) jdk_33_method_22_code 1 (some (.object "java/lang/Integer")) :: ws) ({ frames := 3, cells := 1, slots := 1, locals := 38 } : Room)) (fun a U => a = #[(.int p1)] ∧ Z.Warmed39 U.vm ∧ U.heap = h0) (fun _ _ _ _ _ => True) (fun _ U o U' => ∃ v L, o = .returned v ∧ Q4 Z p1 ca cl h0 n0 v U'.heap L ∧ FrameEnd U o U' L ({ frames := 3, cells := 1, slots := 1, locals := 38 } : Room).cells ({ frames := 3, cells := 1, slots := 1, locals := 38 } : Room).slots) := by
  refine MetFree.of_bodySF (plainFor_of_name pn4) hisR ?_
  intro p e s m args below meth c s₁ Bd hml0 hP hK
  obtain ⟨rfl, hZ, hh⟩ := hP
  have hx := Bd.exec
  have hby := Bd.bytes
  have hml : c.maxLocals = 1 := hml0
  have hown : s.vm.findClass "java/lang/Integer" = some m.cls := findClass_of_methodNamed Bd.named
  have hnm := (name_of_methodNamed Bd.named Bd.method).1
  have X0 : Stand p l e ({ frames := 3, cells := 1, slots := 1, locals := 38 } : Room) s m #[(.int p1)] below meth c s₁ [] 0 0 := Stand.of_body Bd
  have e0 : s₁.heap = h0 := by rw [← hh, Bd.state]; rfl
  have N0 := Fr.nil n0
  have pre0 : ∀ t, Steps p.tables e below (s₁.setTop (mkF m 0 #[.val (.int p1)] [])) t → Steps p.tables e below (s₁.setTop (entryFrame m #[(.int p1)] 1)) t := fun t k => castTop (ef4 m p1) k
  have pre1 : ∀ t, Steps p.tables e below (s₁.setTop (mkF m 3 #[.val (.int p1)] [(.int (-128 : Int32)), (.int p1)])) t → Steps p.tables e below (s₁.setTop (entryFrame m #[(.int p1)] 1)) t := fun t k => pre0 t (by
    show Steps p.tables e below (s₁.setTop (mkF m 0 #[.val (.int p1)] [])) _
    refine XS.iloadN X0.here hx rfl (hb hby d4_0) rfl  ?_
    show Steps p.tables e below (s₁.setTop (mkF m 1 #[.val (.int p1)] [(.int p1)])) _
    refine XS.bipush X0.here hx rfl (hb hby d4_1) ?_
    exact k)
  by_cases hc2 : p1 < (-128 : Int32)
  ·  -- yes
    obtain ⟨T3, h3, X3, e3, E3, A3, D3, -, st3⟩ := newO X0 hx hZ hown (ow hw 49 rfl) (ow hw 50 rfl) (ow hw 20 rfl) e0 (g := (mkF m 23 #[.val (.int p1)] [])) rfl (hb hby d4_23) (by decide) (by decide)
    obtain ⟨b3, g3⟩ : ∃ z, z = h0.size := ⟨_, rfl⟩
    rw [← g3] at A3 D3 st3
    have gn_b3 : n0 ≤ b3 := Nat.le_trans Z0 (Nat.le_of_eq g3.symm)
    have sz_b3 : h0.size ≤ b3 := Nat.le_trans (Keep.refl h0 []).1 (Nat.le_of_eq g3.symm)
    have Z4 : n0 ≤ h3.size := Nat.le_trans Z0 E3.1
    have K5 : Keep h0 h3 [] := (Keep.refl h0 []).ext E3
    have F_value_b3 : Fld Z h3 b3 "java/lang/Integer" "value" "I" (.int (0 : Int32)) := D3 (Or.inr (ow hw 63 rfl)) (ty := .int) (by decide)
    obtain ⟨_, _, ⟨T6, L6, k6, n6⟩, -, X6, ⟨Lc6, hQ6, l6, y6, z6⟩, st6⟩ := X3.specialBack hx (y := (⟨"java/lang/Integer", "<init>", "(I)V"⟩ : MethodName)) rfl hown (mvT hZ (ow hw 51 rfl)) (mvT hZ (ow hw 52 rfl)) (mvT hZ (ow hw 54 rfl)) (by decide) (backOf (W := 1) (rm9 l Z a0 hw [] b3 p1 (.int (0 : Int32)) h3 n0 Z4 A3 F_value_b3 gn_b3) hZ (ow hw 54 rfl) (ow hw 20 rfl) (by decide) (by decide)) (g := (mkF m 28 #[.val (.int p1)] [(.int p1), (.ref b3), (.ref b3)])) rfl (by rw [hml]; rfl) (Steps.refl _) (a := b3) (argsL := [(.int p1)]) (rest := [(.ref b3)]) (lenOf pd5 rfl) rfl (by show 2 * 0 + _ ≤ _; exact Nat.le_of_eq rfl) (hb hby d4_28) (fun _ _ => ⟨rfl, e3, (by decide : 1 + 0 ≤ _), (by decide : 1 + 0 ≤ _)⟩)
    dsimp only [Pt.U, Pt.locs, Pt.cells, Pt.slots] at X6 l6 y6 z6 st6 hQ6
    subst l6 y6 z6
    obtain ⟨rfl, N6q, K6, f6_0⟩ := hQ6
    have N6 := Fr.app N0 N6q
    have Z7 : n0 ≤ T6.heap.size := Nat.le_trans Z4 K6.1
    have K8 : Keep h0 T6.heap [] := K5.trans K6 (allS (P := fun x => x ∈ _ ∨ _) (Or.inr sz_b3) all0)
    obtain ⟨fs, hr, hrun, hended, hW, hsame⟩ := X6.leave (v := some (.ref b3)) (fun h => by rw [Bd.returns] at h; cases h)
    refine ⟨_, _, pre1 _ ?_, hrun, hended, _, _, rfl, ?_, ⟨_, rfl⟩, hW, hsame.mono (by decide) (by decide)⟩
    · show Steps p.tables e below (s₁.setTop (mkF m 3 #[.val (.int p1)] [(.int (-128 : Int32)), (.int p1)])) _
      refine XS.icmpYes X0.here hx rfl (pc0 := 3) (pc' := 23) rfl (hb hby d4_3) rfl (tlt hc2).1 (by decide) (by decide) ?_
      show Steps p.tables e below (s₁.setTop (mkF m 23 #[.val (.int p1)] [])) _
      refine st3 _ ?_
      show Steps p.tables e below (T3.setTop (mkF m 26 #[.val (.int p1)] [(.ref b3)])) _
      refine XS.dup X3.here hx rfl (hb hby d4_26) rfl rfl ?_
      show Steps p.tables e below (T3.setTop (mkF m 27 #[.val (.int p1)] [(.ref b3), (.ref b3)])) _
      refine XS.iloadN X3.here hx rfl (hb hby d4_27) rfl  ?_
      show Steps p.tables e below (T3.setTop (mkF m 28 #[.val (.int p1)] [(.int p1), (.ref b3), (.ref b3)])) _
      refine st6.trans ?_
      show Steps p.tables e below (T6.setTop (mkF m 31 #[.val (.int p1)] [(.ref b3)])) _
      jvm_step X6.here [X6.here.top, hx, (hb hby d4_31), X6.method', Bd.returns, Value.isRef, FieldType.isReference]
      first | (intro acts; rw [hr _ acts rfl rfl rfl]) | rw [hr _ _ rfl rfl rfl]
      exact Steps.refl _
    · show Q4 Z p1 ca cl h0 n0 _ T6.heap _
      exact ⟨b3, rfl, N6, K8, f6_0⟩
  ·  -- no
    obtain ⟨T9, X9, e9, st9⟩ := getS2 X0 hx hZ hown (host := "") (Or.inl (ow hw 22 rfl)) Via.refl e0 (S1.ext O1.2) (g := (mkF m 7 #[.val (.int p1)] [(.int p1)])) rfl (hb hby d4_7)
    have pre10 : ∀ t, Steps p.tables e below (T9.setTop (mkF m 10 #[.val (.int p1)] [(.int (127 : Int32)), (.int p1)])) t → Steps p.tables e below (s₁.setTop (entryFrame m #[(.int p1)] 1)) t := fun t k => pre1 t (by
      show Steps p.tables e below (s₁.setTop (mkF m 3 #[.val (.int p1)] [(.int (-128 : Int32)), (.int p1)])) _
      refine XS.icmpNo X0.here hx rfl (hb hby d4_3) rfl (flt hc2).1 ?_
      show Steps p.tables e below (s₁.setTop (mkF m 6 #[.val (.int p1)] [])) _
      refine XS.iloadN X0.here hx rfl (hb hby d4_6) rfl  ?_
      show Steps p.tables e below (s₁.setTop (mkF m 7 #[.val (.int p1)] [(.int p1)])) _
      refine st9 _ ?_
      exact k)
    by_cases hc11 : (127 : Int32) < p1
    ·  -- yes
      obtain ⟨T12, h12, X12, e12, E12, A12, D12, -, st12⟩ := newO X9 hx hZ hown (ow hw 49 rfl) (ow hw 50 rfl) (ow hw 20 rfl) e9 (g := (mkF m 23 #[.val (.int p1)] [])) rfl (hb hby d4_23) (by decide) (by decide)
      obtain ⟨b12, g12⟩ : ∃ z, z = h0.size := ⟨_, rfl⟩
      rw [← g12] at A12 D12 st12
      have gn_b12 : n0 ≤ b12 := Nat.le_trans Z0 (Nat.le_of_eq g12.symm)
      have sz_b12 : h0.size ≤ b12 := Nat.le_trans (Keep.refl h0 []).1 (Nat.le_of_eq g12.symm)
      have Z13 : n0 ≤ h12.size := Nat.le_trans Z0 E12.1
      have K14 : Keep h0 h12 [] := (Keep.refl h0 []).ext E12
      have F_value_b12 : Fld Z h12 b12 "java/lang/Integer" "value" "I" (.int (0 : Int32)) := D12 (Or.inr (ow hw 63 rfl)) (ty := .int) (by decide)
      obtain ⟨_, _, ⟨T15, L15, k15, n15⟩, -, X15, ⟨Lc15, hQ15, l15, y15, z15⟩, st15⟩ := X12.specialBack hx (y := (⟨"java/lang/Integer", "<init>", "(I)V"⟩ : MethodName)) rfl hown (mvT hZ (ow hw 51 rfl)) (mvT hZ (ow hw 52 rfl)) (mvT hZ (ow hw 54 rfl)) (by decide) (backOf (W := 1) (rm9 l Z a0 hw [] b12 p1 (.int (0 : Int32)) h12 n0 Z13 A12 F_value_b12 gn_b12) hZ (ow hw 54 rfl) (ow hw 20 rfl) (by decide) (by decide)) (g := (mkF m 28 #[.val (.int p1)] [(.int p1), (.ref b12), (.ref b12)])) rfl (by rw [hml]; rfl) (Steps.refl _) (a := b12) (argsL := [(.int p1)]) (rest := [(.ref b12)]) (lenOf pd5 rfl) rfl (by show 2 * 0 + _ ≤ _; exact Nat.le_of_eq rfl) (hb hby d4_28) (fun _ _ => ⟨rfl, e12, (by decide : 1 + 0 ≤ _), (by decide : 1 + 0 ≤ _)⟩)
      dsimp only [Pt.U, Pt.locs, Pt.cells, Pt.slots] at X15 l15 y15 z15 st15 hQ15
      subst l15 y15 z15
      obtain ⟨rfl, N15q, K15, f15_0⟩ := hQ15
      have N15 := Fr.app N0 N15q
      have Z16 : n0 ≤ T15.heap.size := Nat.le_trans Z13 K15.1
      have K17 : Keep h0 T15.heap [] := K14.trans K15 (allS (P := fun x => x ∈ _ ∨ _) (Or.inr sz_b12) all0)
      obtain ⟨fs, hr, hrun, hended, hW, hsame⟩ := X15.leave (v := some (.ref b12)) (fun h => by rw [Bd.returns] at h; cases h)
      refine ⟨_, _, pre10 _ ?_, hrun, hended, _, _, rfl, ?_, ⟨_, rfl⟩, hW, hsame.mono (by decide) (by decide)⟩
      · show Steps p.tables e below (T9.setTop (mkF m 10 #[.val (.int p1)] [(.int (127 : Int32)), (.int p1)])) _
        refine XS.icmpYes X9.here hx rfl (pc0 := 10) (pc' := 23) rfl (hb hby d4_10) rfl (tlt hc11).2.2.1 (by decide) (by decide) ?_
        show Steps p.tables e below (T9.setTop (mkF m 23 #[.val (.int p1)] [])) _
        refine st12 _ ?_
        show Steps p.tables e below (T12.setTop (mkF m 26 #[.val (.int p1)] [(.ref b12)])) _
        refine XS.dup X12.here hx rfl (hb hby d4_26) rfl rfl ?_
        show Steps p.tables e below (T12.setTop (mkF m 27 #[.val (.int p1)] [(.ref b12), (.ref b12)])) _
        refine XS.iloadN X12.here hx rfl (hb hby d4_27) rfl  ?_
        show Steps p.tables e below (T12.setTop (mkF m 28 #[.val (.int p1)] [(.int p1), (.ref b12), (.ref b12)])) _
        refine st15.trans ?_
        show Steps p.tables e below (T15.setTop (mkF m 31 #[.val (.int p1)] [(.ref b12)])) _
        jvm_step X15.here [X15.here.top, hx, (hb hby d4_31), X15.method', Bd.returns, Value.isRef, FieldType.isReference]
        first | (intro acts; rw [hr _ acts rfl rfl rfl]) | rw [hr _ _ rfl rfl rfl]
        exact Steps.refl _
      · show Q4 Z p1 ca cl h0 n0 _ T15.heap _
        exact ⟨b12, rfl, N15, K17, f15_0⟩
    ·  -- no
      obtain ⟨T18, X18, e18, st18⟩ := getS2 X9 hx hZ hown (host := "") (Or.inl (ow hw 24 rfl)) Via.refl e9 (S2.ext O1.2) (g := (mkF m 13 #[.val (.int p1)] [])) rfl (hb hby d4_13)
      have hin : ¬ ((p1 + (128 : Int32)) < 0 ∨ cl.slots.size ≤ ((p1 + (128 : Int32))).toNatClampNeg) := own_cidx hsz hc2 hc11
      obtain ⟨bc, hat, Ec⟩ := hcc (p1 + (128 : Int32)) hin
      have Eb : Exa Z h0 bc "java/lang/Integer" := Ec.ext O1.2
      obtain ⟨fs, hr, hrun, hended, hW, hsame⟩ := X18.leave (v := some (.ref bc)) (fun h => by rw [Bd.returns] at h; cases h)
      refine ⟨_, _, pre10 _ ?_, hrun, hended, _, _, rfl, ?_, ⟨_, rfl⟩, hW, hsame.mono (by decide) (by decide)⟩
      · show Steps p.tables e below (T9.setTop (mkF m 10 #[.val (.int p1)] [(.int (127 : Int32)), (.int p1)])) _
        refine XS.icmpNo X9.here hx rfl (hb hby d4_10) rfl (flt hc11).2.2.1 ?_
        show Steps p.tables e below (T9.setTop (mkF m 13 #[.val (.int p1)] [])) _
        refine st18 _ ?_
        show Steps p.tables e below (T18.setTop (mkF m 16 #[.val (.int p1)] [(.ref ca)])) _
        refine XS.iloadN X18.here hx rfl (hb hby d4_16) rfl  ?_
        show Steps p.tables e below (T18.setTop (mkF m 17 #[.val (.int p1)] [(.int p1), (.ref ca)])) _
        refine XS.sipush X18.here hx rfl (hb hby d4_17) ?_
        show Steps p.tables e below (T18.setTop (mkF m 20 #[.val (.int p1)] [(.int (128 : Int32)), (.int p1), (.ref ca)])) _
        refine XS.iadd X18.here hx rfl (hb hby d4_20) rfl ?_
        show Steps p.tables e below (T18.setTop (mkF m 21 #[.val (.int p1)] [(.int (p1 + (128 : Int32))), (.ref ca)])) _
        refine X18.aaload hx (j := (p1 + (128 : Int32))) (v := .ref bc) (by rw [e18]; exact (A1.ext O1.2).1) (State.isArrayOf_alike hZ.alike A1.2.1) rfl A1.2.2 hin hat (g := (mkF m 21 #[.val (.int p1)] [(.int (p1 + (128 : Int32))), (.ref ca)])) rfl rfl (hb hby d4_21) _ ?_
        show Steps p.tables e below (T18.setTop (mkF m 22 #[.val (.int p1)] [(.ref bc)])) _
        jvm_step X18.here [X18.here.top, hx, (hb hby d4_22), X18.method', Bd.returns, Value.isRef, FieldType.isReference]
        first | (intro acts; rw [hr _ acts rfl rfl rfl]) | rw [hr _ _ rfl rfl rfl]
        exact Steps.refl _
      · show Q4 Z p1 ca cl h0 n0 _ T18.heap _
        rw [e18]
        exact ⟨bc, rfl, N0, (Keep.refl h0 []), Eb⟩
theorem d5_0 : decode prog_30_method_3_code 0 = .ok (.aload_n 1, 1) := by decide +kernel
theorem d5_1 : decode prog_30_method_3_code 1 = .ok (.instanceof 8, 3) := by decide +kernel
theorem d5_4 : decode prog_30_method_3_code 4 = .ok (.ifCond .eq 34, 3) := by decide +kernel
theorem d5_7 : decode prog_30_method_3_code 7 = .ok (.aload_n 1, 1) := by decide +kernel
theorem d5_8 : decode prog_30_method_3_code 8 = .ok (.checkcast 8, 3) := by decide +kernel
theorem d5_11 : decode prog_30_method_3_code 11 = .ok (.astore_n 2, 1) := by decide +kernel
theorem d5_12 : decode prog_30_method_3_code 12 = .ok (.aload_n 2, 1) := by decide +kernel
theorem d5_13 : decode prog_30_method_3_code 13 = .ok (.getfield 7, 3) := by decide +kernel
theorem d5_16 : decode prog_30_method_3_code 16 = .ok (.aload_n 0, 1) := by decide +kernel
theorem d5_17 : decode prog_30_method_3_code 17 = .ok (.getfield 7, 3) := by decide +kernel
theorem d5_20 : decode prog_30_method_3_code 20 = .ok (.if_icmp .ne 18, 3) := by decide +kernel
theorem d5_23 : decode prog_30_method_3_code 23 = .ok (.aload_n 2, 1) := by decide +kernel
theorem d5_24 : decode prog_30_method_3_code 24 = .ok (.getfield 13, 3) := by decide +kernel
theorem d5_27 : decode prog_30_method_3_code 27 = .ok (.aload_n 0, 1) := by decide +kernel
theorem d5_28 : decode prog_30_method_3_code 28 = .ok (.getfield 13, 3) := by decide +kernel
theorem d5_31 : decode prog_30_method_3_code 31 = .ok (.if_icmp .ne 7, 3) := by decide +kernel
theorem d5_34 : decode prog_30_method_3_code 34 = .ok (.iconst 1, 1) := by decide +kernel
theorem d5_35 : decode prog_30_method_3_code 35 = .ok (.goto 4, 3) := by decide +kernel
theorem d5_39 : decode prog_30_method_3_code 39 = .ok (.ireturn, 1) := by decide +kernel
theorem d5_38 : decode prog_30_method_3_code 38 = .ok (.iconst 0, 1) := by decide +kernel
theorem ef5p (m : MethodId) (a1 : Addr) (a2 : Addr) : entryFrame m #[(.ref a1), (.ref a2)] 3 = mkF m 0 #[.val (.ref a1), .val (.ref a2), .unset] [] := by first | (simp [entryFrame, mkF, argsToLocals, Value.category]; done) | rfl
def Q5p (Z : State) (a1 : Addr) (a2 : Addr) (x1 : Int32) (y1 : Int32) (x2 : Int32) (y2 : Int32) (h0 : Heap) (n0 : Nat) (v : Option Value) (h : Heap) (L : List Loc) : Prop := v = some (.int (own_b (x2 = x1 ∧ y2 = y1))) ∧ Fr n0 L ∧ h = h0
set_option maxRecDepth 65536 in
set_option maxHeartbeats 40000000 in
theorem rm5p (l : Launch) (Z : State) (a0 : Array Value) (hw : ∀ d ∈ tables_1, d.before a0 Z = true) (ws : List Jvm.Cond) (a1 : Addr) (a2 : Addr) (x1 : Int32) (y1 : Int32) (x2 : Int32) (y2 : Int32) (h0 : Heap) (n0 : Nat) (Z0 : n0 ≤ h0.size) (E2 : Exa Z h0 a2 "com/example/tackboard/tackboard/core/Pin") (F1 : Fld Z h0 a1 "com/example/tackboard/tackboard/core/Pin" "x" "I" (.int x1)) (F2 : Fld Z h0 a1 "com/example/tackboard/tackboard/core/Pin" "y" "I" (.int y1)) (F3 : Fld Z h0 a2 "com/example/tackboard/tackboard/core/Pin" "x" "I" (.int x2)) (F4 : Fld Z h0 a2 "com/example/tackboard/tackboard/core/Pin" "y" "I" (.int y2)) :
    MetFree l (⟨"com/example/tackboard/tackboard/core/Pin", "equals", "(Ljava/lang/Object;)Z"⟩ : MethodName) (head1 (Jvm.Cond.code (⟨"com/example/tackboard/tackboard/core/Pin", "equals", "(Ljava/lang/Object;)Z"⟩ : MethodName) prog_30_method_3_code 3 (some .boolean) :: ws) ({ frames := 0, cells := 0, slots := 0, locals := 0 } : Room)) (fun a U => a = #[(.ref a1), (.ref a2)] ∧ Z.Warmed39 U.vm ∧ U.heap = h0) (fun _ _ _ _ _ => True) (fun _ U o U' => ∃ v L, o = .returned v ∧ Q5p Z a1 a2 x1 y1 x2 y2 h0 n0 v U'.heap L ∧ FrameEnd U o U' L ({ frames := 0, cells := 0, slots := 0, locals := 0 } : Room).cells ({ frames := 0, cells := 0, slots := 0, locals := 0 } : Room).slots) := by
  refine MetFree.of_bodySF (plainFor_of_name pn2) hisR ?_
  intro p e s m args below meth c s₁ Bd hml0 hP hK
  obtain ⟨rfl, hZ, hh⟩ := hP
  have hx := Bd.exec
  have hby := Bd.bytes
  have hml : c.maxLocals = 3 := hml0
  have hown : s.vm.findClass "com/example/tackboard/tackboard/core/Pin" = some m.cls := findClass_of_methodNamed Bd.named
  have hnm := (name_of_methodNamed Bd.named Bd.method).1
  have X0 : Stand p l e ({ frames := 0, cells := 0, slots := 0, locals := 0 } : Room) s m #[(.ref a1), (.ref a2)] below meth c s₁ [] 0 0 := Stand.of_body Bd
  have e0 : s₁.heap = h0 := by rw [← hh, Bd.state]; rfl
  have N0 := Fr.nil n0
  have pre0 : ∀ t, Steps p.tables e below (s₁.setTop (mkF m 0 #[.val (.ref a1), .val (.ref a2), .unset] [])) t → Steps p.tables e below (s₁.setTop (entryFrame m #[(.ref a1), (.ref a2)] 3)) t := fun t k => castTop (ef5p m a1 a2) k
  obtain ⟨T1, X1, e1, st1⟩ := instY X0 hx hZ hown (ow hw 30 rfl) e0 (Ins.self E2) (g := (mkF m 1 #[.val (.ref a1), .val (.ref a2), .unset] [(.ref a2)])) rfl rfl (hb hby d5_1)
  obtain ⟨T2, X2, e2, st2⟩ := castY X1 hx hZ hown (ow hw 30 rfl) e1 (Ins.self E2) (g := (mkF m 8 #[.val (.ref a1), .val (.ref a2), .unset] [(.ref a2)])) rfl rfl (hb hby d5_8)
  obtain ⟨T3, X3, e3, st3⟩ := getF X2 hx hZ hown (host := "") (Or.inl (ow hw 14 rfl)) Via.refl e2 F3 (g := (mkF m 13 #[.val (.ref a1), .val (.ref a2), .val (.ref a2)] [(.ref a2)])) rfl rfl (hb hby d5_13)
  obtain ⟨T4, X4, e4, st4⟩ := getF X3 hx hZ hown (host := "") (Or.inl (ow hw 14 rfl)) Via.refl e3 F1 (g := (mkF m 17 #[.val (.ref a1), .val (.ref a2), .val (.ref a2)] [(.ref a1), (.int x2)])) rfl rfl (hb hby d5_17)
  have pre5 : ∀ t, Steps p.tables e below (T4.setTop (mkF m 20 #[.val (.ref a1), .val (.ref a2), .val (.ref a2)] [(.int x1), (.int x2)])) t → Steps p.tables e below (s₁.setTop (entryFrame m #[(.ref a1), (.ref a2)] 3)) t := fun t k => pre0 t (by
    show Steps p.tables e below (s₁.setTop (mkF m 0 #[.val (.ref a1), .val (.ref a2), .unset] [])) _
    refine XS.aloadN X0.here hx rfl (hb hby d5_0) rfl rfl ?_
    show Steps p.tables e below (s₁.setTop (mkF m 1 #[.val (.ref a1), .val (.ref a2), .unset] [(.ref a2)])) _
    refine st1 _ ?_
    show Steps p.tables e below (T1.setTop (mkF m 4 #[.val (.ref a1), .val (.ref a2), .unset] [(.int (1 : Int32))])) _
    refine XS.ifNo X1.here hx rfl (hb hby d5_4) rfl ((if0 _ _).trans (feq (by decide)).1) ?_
    show Steps p.tables e below (T1.setTop (mkF m 7 #[.val (.ref a1), .val (.ref a2), .unset] [])) _
    refine XS.aloadN X1.here hx rfl (hb hby d5_7) rfl rfl ?_
    show Steps p.tables e below (T1.setTop (mkF m 8 #[.val (.ref a1), .val (.ref a2), .unset] [(.ref a2)])) _
    refine st2 _ ?_
    show Steps p.tables e below (T2.setTop (mkF m 11 #[.val (.ref a1), .val (.ref a2), .unset] [(.ref a2)])) _
    refine XS.astoreN X2.here hx rfl (hb hby d5_11) rfl rfl (l' := #[.val (.ref a1), .val (.ref a2), .val (.ref a2)]) rfl ?_
    show Steps p.tables e below (T2.setTop (mkF m 12 #[.val (.ref a1), .val (.ref a2), .val (.ref a2)] [])) _
    refine XS.aloadN X2.here hx rfl (hb hby d5_12) rfl rfl ?_
    show Steps p.tables e below (T2.setTop (mkF m 13 #[.val (.ref a1), .val (.ref a2), .val (.ref a2)] [(.ref a2)])) _
    refine st3 _ ?_
    show Steps p.tables e below (T3.setTop (mkF m 16 #[.val (.ref a1), .val (.ref a2), .val (.ref a2)] [(.int x2)])) _
    refine XS.aloadN X3.here hx rfl (hb hby d5_16) rfl rfl ?_
    show Steps p.tables e below (T3.setTop (mkF m 17 #[.val (.ref a1), .val (.ref a2), .val (.ref a2)] [(.ref a1), (.int x2)])) _
    refine st4 _ ?_
    exact k)
  by_cases hc6 : x2 = x1
  ·  -- yes
    obtain ⟨T7, X7, e7, st7⟩ := getF X4 hx hZ hown (host := "") (Or.inl (ow hw 16 rfl)) Via.refl e4 F4 (g := (mkF m 24 #[.val (.ref a1), .val (.ref a2), .val (.ref a2)] [(.ref a2)])) rfl rfl (hb hby d5_24)
    obtain ⟨T8, X8, e8, st8⟩ := getF X7 hx hZ hown (host := "") (Or.inl (ow hw 16 rfl)) Via.refl e7 F2 (g := (mkF m 28 #[.val (.ref a1), .val (.ref a2), .val (.ref a2)] [(.ref a1), (.int y2)])) rfl rfl (hb hby d5_28)
    have pre9 : ∀ t, Steps p.tables e below (T8.setTop (mkF m 31 #[.val (.ref a1), .val (.ref a2), .val (.ref a2)] [(.int y1), (.int y2)])) t → Steps p.tables e below (s₁.setTop (entryFrame m #[(.ref a1), (.ref a2)] 3)) t := fun t k => pre5 t (by
      show Steps p.tables e below (T4.setTop (mkF m 20 #[.val (.ref a1), .val (.ref a2), .val (.ref a2)] [(.int x1), (.int x2)])) _
      refine XS.icmpNo X4.here hx rfl (hb hby d5_20) rfl (teq hc6).2 ?_
      show Steps p.tables e below (T4.setTop (mkF m 23 #[.val (.ref a1), .val (.ref a2), .val (.ref a2)] [])) _
      refine XS.aloadN X4.here hx rfl (hb hby d5_23) rfl rfl ?_
      show Steps p.tables e below (T4.setTop (mkF m 24 #[.val (.ref a1), .val (.ref a2), .val (.ref a2)] [(.ref a2)])) _
      refine st7 _ ?_
      show Steps p.tables e below (T7.setTop (mkF m 27 #[.val (.ref a1), .val (.ref a2), .val (.ref a2)] [(.int y2)])) _
      refine XS.aloadN X7.here hx rfl (hb hby d5_27) rfl rfl ?_
      show Steps p.tables e below (T7.setTop (mkF m 28 #[.val (.ref a1), .val (.ref a2), .val (.ref a2)] [(.ref a1), (.int y2)])) _
      refine st8 _ ?_
      exact k)
    by_cases hc10 : y2 = y1
    ·  -- yes
      obtain ⟨fs, hr, hrun, hended, hW, hsame⟩ := X8.leave (v := some (.int (1 : Int32))) (fun h => by rw [Bd.returns] at h; cases h)
      refine ⟨_, _, pre9 _ ?_, hrun, hended, _, _, rfl, ?_, ⟨_, rfl⟩, hW, hsame.mono (by decide) (by decide)⟩
      · show Steps p.tables e below (T8.setTop (mkF m 31 #[.val (.ref a1), .val (.ref a2), .val (.ref a2)] [(.int y1), (.int y2)])) _
        refine XS.icmpNo X8.here hx rfl (hb hby d5_31) rfl (teq hc10).2 ?_
        show Steps p.tables e below (T8.setTop (mkF m 34 #[.val (.ref a1), .val (.ref a2), .val (.ref a2)] [])) _
        refine XS.iconst X8.here hx rfl (hb hby d5_34) ?_
        show Steps p.tables e below (T8.setTop (mkF m 35 #[.val (.ref a1), .val (.ref a2), .val (.ref a2)] [(.int (1 : Int32))])) _
        refine XS.goto X8.here hx rfl (pc0 := 35) (pc' := 39) rfl (hb hby d5_35) (by decide) (by decide) ?_
        show Steps p.tables e below (T8.setTop (mkF m 39 #[.val (.ref a1), .val (.ref a2), .val (.ref a2)] [(.int (1 : Int32))])) _
        exact retN X8 hx (t := .boolean) Bd.returns (by simp) (hb hby d5_39) hr
      · show Q5p Z a1 a2 x1 y1 x2 y2 h0 n0 _ T8.heap _
        rw [e8]
        exact ⟨(congrArg (fun z => some (Value.int z)) (by first | rfl | (simp only [own_b, if_pos hc6, if_pos hc10]; done) | (simp [own_b, hc6, hc10]; done))), N0, rfl⟩
    ·  -- no
      obtain ⟨fs, hr, hrun, hended, hW, hsame⟩ := X8.leave (v := some (.int (0 : Int32))) (fun h => by rw [Bd.returns] at h; cases h)
      refine ⟨_, _, pre9 _ ?_, hrun, hended, _, _, rfl, ?_, ⟨_, rfl⟩, hW, hsame.mono (by decide) (by decide)⟩
      · show Steps p.tables e below (T8.setTop (mkF m 31 #[.val (.ref a1), .val (.ref a2), .val (.ref a2)] [(.int y1), (.int y2)])) _
        refine XS.icmpYes X8.here hx rfl (pc0 := 31) (pc' := 38) rfl (hb hby d5_31) rfl (feq hc10).2 (by decide) (by decide) ?_
        show Steps p.tables e below (T8.setTop (mkF m 38 #[.val (.ref a1), .val (.ref a2), .val (.ref a2)] [])) _
        refine XS.iconst X8.here hx rfl (hb hby d5_38) ?_
        show Steps p.tables e below (T8.setTop (mkF m 39 #[.val (.ref a1), .val (.ref a2), .val (.ref a2)] [(.int (0 : Int32))])) _
        exact retN X8 hx (t := .boolean) Bd.returns (by simp) (hb hby d5_39) hr
      · show Q5p Z a1 a2 x1 y1 x2 y2 h0 n0 _ T8.heap _
        rw [e8]
        exact ⟨(congrArg (fun z => some (Value.int z)) (by first | rfl | (simp only [own_b, if_pos hc6, if_neg hc10]; done) | (simp [own_b, hc6, hc10]; done))), N0, rfl⟩
  ·  -- no
    obtain ⟨fs, hr, hrun, hended, hW, hsame⟩ := X4.leave (v := some (.int (0 : Int32))) (fun h => by rw [Bd.returns] at h; cases h)
    refine ⟨_, _, pre5 _ ?_, hrun, hended, _, _, rfl, ?_, ⟨_, rfl⟩, hW, hsame.mono (by decide) (by decide)⟩
    · show Steps p.tables e below (T4.setTop (mkF m 20 #[.val (.ref a1), .val (.ref a2), .val (.ref a2)] [(.int x1), (.int x2)])) _
      refine XS.icmpYes X4.here hx rfl (pc0 := 20) (pc' := 38) rfl (hb hby d5_20) rfl (feq hc6).2 (by decide) (by decide) ?_
      show Steps p.tables e below (T4.setTop (mkF m 38 #[.val (.ref a1), .val (.ref a2), .val (.ref a2)] [])) _
      refine XS.iconst X4.here hx rfl (hb hby d5_38) ?_
      show Steps p.tables e below (T4.setTop (mkF m 39 #[.val (.ref a1), .val (.ref a2), .val (.ref a2)] [(.int (0 : Int32))])) _
      exact retN X4 hx (t := .boolean) Bd.returns (by simp) (hb hby d5_39) hr
    · show Q5p Z a1 a2 x1 y1 x2 y2 h0 n0 _ T4.heap _
      rw [e4]
      exact ⟨(congrArg (fun z => some (Value.int z)) (by first | rfl | (simp only [own_b, if_neg hc6]; done) | (simp [own_b, hc6]; done))), N0, rfl⟩
theorem ef5i (m : MethodId) (a1 : Addr) (a2 : Addr) : entryFrame m #[(.ref a1), (.ref a2)] 3 = mkF m 0 #[.val (.ref a1), .val (.ref a2), .unset] [] := by first | (simp [entryFrame, mkF, argsToLocals, Value.category]; done) | rfl
def Q5i (Z : State) (a1 : Addr) (a2 : Addr) (h0 : Heap) (n0 : Nat) (v : Option Value) (h : Heap) (L : List Loc) : Prop := v = some (.int (0 : Int32)) ∧ Fr n0 L ∧ h = h0
set_option maxRecDepth 65536 in
set_option maxHeartbeats 40000000 in
theorem rm5i (l : Launch) (Z : State) (a0 : Array Value) (hw : ∀ d ∈ tables_1, d.before a0 Z = true) (ws : List Jvm.Cond) (a1 : Addr) (a2 : Addr) (h0 : Heap) (n0 : Nat) (Z0 : n0 ≤ h0.size) (E2 : Exa Z h0 a2 "java/lang/Integer") :
    MetFree l (⟨"com/example/tackboard/tackboard/core/Pin", "equals", "(Ljava/lang/Object;)Z"⟩ : MethodName) (head1 (Jvm.Cond.code (⟨"com/example/tackboard/tackboard/core/Pin", "equals", "(Ljava/lang/Object;)Z"⟩ : MethodName) prog_30_method_3_code 3 (some .boolean) :: ws) ({ frames := 0, cells := 0, slots := 0, locals := 0 } : Room)) (fun a U => a = #[(.ref a1), (.ref a2)] ∧ Z.Warmed39 U.vm ∧ U.heap = h0) (fun _ _ _ _ _ => True) (fun _ U o U' => ∃ v L, o = .returned v ∧ Q5i Z a1 a2 h0 n0 v U'.heap L ∧ FrameEnd U o U' L ({ frames := 0, cells := 0, slots := 0, locals := 0 } : Room).cells ({ frames := 0, cells := 0, slots := 0, locals := 0 } : Room).slots) := by
  refine MetFree.of_bodySF (plainFor_of_name pn2) hisR ?_
  intro p e s m args below meth c s₁ Bd hml0 hP hK
  obtain ⟨rfl, hZ, hh⟩ := hP
  have hx := Bd.exec
  have hby := Bd.bytes
  have hml : c.maxLocals = 3 := hml0
  have hown : s.vm.findClass "com/example/tackboard/tackboard/core/Pin" = some m.cls := findClass_of_methodNamed Bd.named
  have hnm := (name_of_methodNamed Bd.named Bd.method).1
  have X0 : Stand p l e ({ frames := 0, cells := 0, slots := 0, locals := 0 } : Room) s m #[(.ref a1), (.ref a2)] below meth c s₁ [] 0 0 := Stand.of_body Bd
  have e0 : s₁.heap = h0 := by rw [← hh, Bd.state]; rfl
  have N0 := Fr.nil n0
  have pre0 : ∀ t, Steps p.tables e below (s₁.setTop (mkF m 0 #[.val (.ref a1), .val (.ref a2), .unset] [])) t → Steps p.tables e below (s₁.setTop (entryFrame m #[(.ref a1), (.ref a2)] 3)) t := fun t k => castTop (ef5i m a1 a2) k
  obtain ⟨T1, X1, e1, st1⟩ := instNo X0 hx hZ hown (ow hw 30 rfl) e0 E2 (own_no (ow hw 46 rfl) (ow hw 1 rfl) (NS.step (ow hw 46 rfl) (NS.step (ow hw 47 rfl) (own_root (ow hw 48 rfl) (ow hw 1 rfl) (by decide)) (by decide)) (by decide)) (by decide)) (g := (mkF m 1 #[.val (.ref a1), .val (.ref a2), .unset] [(.ref a2)])) rfl rfl (hb hby d5_1)
  obtain ⟨fs, hr, hrun, hended, hW, hsame⟩ := X1.leave (v := some (.int (0 : Int32))) (fun h => by rw [Bd.returns] at h; cases h)
  refine ⟨_, _, pre0 _ ?_, hrun, hended, _, _, rfl, ?_, ⟨_, rfl⟩, hW, hsame.mono (by decide) (by decide)⟩
  · show Steps p.tables e below (s₁.setTop (mkF m 0 #[.val (.ref a1), .val (.ref a2), .unset] [])) _
    refine XS.aloadN X0.here hx rfl (hb hby d5_0) rfl rfl ?_
    show Steps p.tables e below (s₁.setTop (mkF m 1 #[.val (.ref a1), .val (.ref a2), .unset] [(.ref a2)])) _
    refine st1 _ ?_
    show Steps p.tables e below (T1.setTop (mkF m 4 #[.val (.ref a1), .val (.ref a2), .unset] [(.int (0 : Int32))])) _
    refine XS.ifYes X1.here hx rfl (pc0 := 4) (pc' := 38) rfl (hb hby d5_4) rfl ((if0 _ _).trans (teq (by decide)).1) (by decide) (by decide) ?_
    show Steps p.tables e below (T1.setTop (mkF m 38 #[.val (.ref a1), .val (.ref a2), .unset] [])) _
    refine XS.iconst X1.here hx rfl (hb hby d5_38) ?_
    show Steps p.tables e below (T1.setTop (mkF m 39 #[.val (.ref a1), .val (.ref a2), .unset] [(.int (0 : Int32))])) _
    exact retN X1 hx (t := .boolean) Bd.returns (by simp) (hb hby d5_39) hr
  · show Q5i Z a1 a2 h0 n0 _ T1.heap _
    rw [e1]
    exact ⟨rfl, N0, rfl⟩
theorem ef5n (m : MethodId) (a1 : Addr) : entryFrame m #[(.ref a1), .null] 3 = mkF m 0 #[.val (.ref a1), .val .null, .unset] [] := by first | (simp [entryFrame, mkF, argsToLocals, Value.category]; done) | rfl
def Q5n (Z : State) (a1 : Addr) (h0 : Heap) (n0 : Nat) (v : Option Value) (h : Heap) (L : List Loc) : Prop := v = some (.int (0 : Int32)) ∧ Fr n0 L ∧ h = h0
set_option maxRecDepth 65536 in
set_option maxHeartbeats 40000000 in
theorem rm5n (l : Launch) (Z : State) (a0 : Array Value) (hw : ∀ d ∈ tables_1, d.before a0 Z = true) (ws : List Jvm.Cond) (a1 : Addr) (h0 : Heap) (n0 : Nat) (Z0 : n0 ≤ h0.size) :
    MetFree l (⟨"com/example/tackboard/tackboard/core/Pin", "equals", "(Ljava/lang/Object;)Z"⟩ : MethodName) (head1 (Jvm.Cond.code (⟨"com/example/tackboard/tackboard/core/Pin", "equals", "(Ljava/lang/Object;)Z"⟩ : MethodName) prog_30_method_3_code 3 (some .boolean) :: ws) ({ frames := 0, cells := 0, slots := 0, locals := 0 } : Room)) (fun a U => a = #[(.ref a1), .null] ∧ Z.Warmed39 U.vm ∧ U.heap = h0) (fun _ _ _ _ _ => True) (fun _ U o U' => ∃ v L, o = .returned v ∧ Q5n Z a1 h0 n0 v U'.heap L ∧ FrameEnd U o U' L ({ frames := 0, cells := 0, slots := 0, locals := 0 } : Room).cells ({ frames := 0, cells := 0, slots := 0, locals := 0 } : Room).slots) := by
  refine MetFree.of_bodySF (plainFor_of_name pn2) hisR ?_
  intro p e s m args below meth c s₁ Bd hml0 hP hK
  obtain ⟨rfl, hZ, hh⟩ := hP
  have hx := Bd.exec
  have hby := Bd.bytes
  have hml : c.maxLocals = 3 := hml0
  have hown : s.vm.findClass "com/example/tackboard/tackboard/core/Pin" = some m.cls := findClass_of_methodNamed Bd.named
  have hnm := (name_of_methodNamed Bd.named Bd.method).1
  have X0 : Stand p l e ({ frames := 0, cells := 0, slots := 0, locals := 0 } : Room) s m #[(.ref a1), .null] below meth c s₁ [] 0 0 := Stand.of_body Bd
  have e0 : s₁.heap = h0 := by rw [← hh, Bd.state]; rfl
  have N0 := Fr.nil n0
  have pre0 : ∀ t, Steps p.tables e below (s₁.setTop (mkF m 0 #[.val (.ref a1), .val .null, .unset] [])) t → Steps p.tables e below (s₁.setTop (entryFrame m #[(.ref a1), .null] 3)) t := fun t k => castTop (ef5n m a1) k
  obtain ⟨fs, hr, hrun, hended, hW, hsame⟩ := X0.leave (v := some (.int (0 : Int32))) (fun h => by rw [Bd.returns] at h; cases h)
  refine ⟨_, _, pre0 _ ?_, hrun, hended, _, _, rfl, ?_, ⟨_, rfl⟩, hW, hsame.mono (by decide) (by decide)⟩
  · show Steps p.tables e below (s₁.setTop (mkF m 0 #[.val (.ref a1), .val .null, .unset] [])) _
    refine XS.aloadN X0.here hx rfl (hb hby d5_0) rfl rfl ?_
    show Steps p.tables e below (s₁.setTop (mkF m 1 #[.val (.ref a1), .val .null, .unset] [.null])) _
    refine X0.instanceofNull hx (g := (mkF m 1 #[.val (.ref a1), .val .null, .unset] [.null])) rfl rfl (hb hby d5_1) _ ?_
    show Steps p.tables e below (s₁.setTop (mkF m 4 #[.val (.ref a1), .val .null, .unset] [(.int (0 : Int32))])) _
    refine XS.ifYes X0.here hx rfl (pc0 := 4) (pc' := 38) rfl (hb hby d5_4) rfl ((if0 _ _).trans (teq (by decide)).1) (by decide) (by decide) ?_
    show Steps p.tables e below (s₁.setTop (mkF m 38 #[.val (.ref a1), .val .null, .unset] [])) _
    refine XS.iconst X0.here hx rfl (hb hby d5_38) ?_
    show Steps p.tables e below (s₁.setTop (mkF m 39 #[.val (.ref a1), .val .null, .unset] [(.int (0 : Int32))])) _
    exact retN X0 hx (t := .boolean) Bd.returns (by simp) (hb hby d5_39) hr
  · show Q5n Z a1 h0 n0 _ s₁.heap _
    rw [e0]
    exact ⟨rfl, N0, rfl⟩
theorem d7_0 : decode jdk_33_method_40_code 0 = .ok (.iload_n 0, 1) := by decide +kernel
theorem d7_1 : decode jdk_33_method_40_code 1 = .ok (.iload_n 1, 1) := by decide +kernel
theorem d7_2 : decode jdk_33_method_40_code 2 = .ok (.if_icmp .ge 7, 3) := by decide +kernel
theorem d7_5 : decode jdk_33_method_40_code 5 = .ok (.iconst (-1), 1) := by decide +kernel
theorem d7_6 : decode jdk_33_method_40_code 6 = .ok (.goto 13, 3) := by decide +kernel
theorem d7_19 : decode jdk_33_method_40_code 19 = .ok (.ireturn, 1) := by decide +kernel
theorem d7_9 : decode jdk_33_method_40_code 9 = .ok (.iload_n 0, 1) := by decide +kernel
theorem d7_10 : decode jdk_33_method_40_code 10 = .ok (.iload_n 1, 1) := by decide +kernel
theorem d7_11 : decode jdk_33_method_40_code 11 = .ok (.if_icmp .ne 7, 3) := by decide +kernel
theorem d7_14 : decode jdk_33_method_40_code 14 = .ok (.iconst 0, 1) := by decide +kernel
theorem d7_15 : decode jdk_33_method_40_code 15 = .ok (.goto 4, 3) := by decide +kernel
theorem d7_18 : decode jdk_33_method_40_code 18 = .ok (.iconst 1, 1) := by decide +kernel
theorem ef7 (m : MethodId) (p1 : Int32) (p2 : Int32) : entryFrame m #[(.int p1), (.int p2)] 2 = mkF m 0 #[.val (.int p1), .val (.int p2)] [] := by first | (simp [entryFrame, mkF, argsToLocals, Value.category]; done) | rfl
def Q7 (Z : State) (p1 : Int32) (p2 : Int32) (h0 : Heap) (n0 : Nat) (v : Option Value) (h : Heap) (L : List Loc) : Prop := v = some (.int (own_cmp p1 p2)) ∧ Fr n0 L ∧ h = h0
set_option maxRecDepth 65536 in
set_option maxHeartbeats 40000000 in
theorem rm7 (l : Launch) (Z : State) (a0 : Array Value) (hw : ∀ d ∈ tables_1, d.before a0 Z = true) (ws : List Jvm.Cond) (p1 : Int32) (p2 : Int32) (h0 : Heap) (n0 : Nat) (Z0 : n0 ≤ h0.size) :
    MetFree l (⟨"java/lang/Integer", "compare", "(II)I"⟩ : MethodName) (head1 (Jvm.Cond.code (⟨"java/lang/Integer", "compare", "(II)I"⟩ : MethodName) jdk_33_method_40_code 2 (some .int) :: ws) ({ frames := 0, cells := 0, slots := 0, locals := 0 } : Room)) (fun a U => a = #[(.int p1), (.int p2)] ∧ Z.Warmed39 U.vm ∧ U.heap = h0) (fun _ _ _ _ _ => True) (fun _ U o U' => ∃ v L, o = .returned v ∧ Q7 Z p1 p2 h0 n0 v U'.heap L ∧ FrameEnd U o U' L ({ frames := 0, cells := 0, slots := 0, locals := 0 } : Room).cells ({ frames := 0, cells := 0, slots := 0, locals := 0 } : Room).slots) := by
  refine MetFree.of_bodySF (plainFor_of_name pn4) hisR ?_
  intro p e s m args below meth c s₁ Bd hml0 hP hK
  obtain ⟨rfl, hZ, hh⟩ := hP
  have hx := Bd.exec
  have hby := Bd.bytes
  have hml : c.maxLocals = 2 := hml0
  have hown : s.vm.findClass "java/lang/Integer" = some m.cls := findClass_of_methodNamed Bd.named
  have hnm := (name_of_methodNamed Bd.named Bd.method).1
  have X0 : Stand p l e ({ frames := 0, cells := 0, slots := 0, locals := 0 } : Room) s m #[(.int p1), (.int p2)] below meth c s₁ [] 0 0 := Stand.of_body Bd
  have e0 : s₁.heap = h0 := by rw [← hh, Bd.state]; rfl
  have N0 := Fr.nil n0
  have pre0 : ∀ t, Steps p.tables e below (s₁.setTop (mkF m 0 #[.val (.int p1), .val (.int p2)] [])) t → Steps p.tables e below (s₁.setTop (entryFrame m #[(.int p1), (.int p2)] 2)) t := fun t k => castTop (ef7 m p1 p2) k
  have pre1 : ∀ t, Steps p.tables e below (s₁.setTop (mkF m 2 #[.val (.int p1), .val (.int p2)] [(.int p2), (.int p1)])) t → Steps p.tables e below (s₁.setTop (entryFrame m #[(.int p1), (.int p2)] 2)) t := fun t k => pre0 t (by
    show Steps p.tables e below (s₁.setTop (mkF m 0 #[.val (.int p1), .val (.int p2)] [])) _
    refine XS.iloadN X0.here hx rfl (hb hby d7_0) rfl  ?_
    show Steps p.tables e below (s₁.setTop (mkF m 1 #[.val (.int p1), .val (.int p2)] [(.int p1)])) _
    refine XS.iloadN X0.here hx rfl (hb hby d7_1) rfl  ?_
    exact k)
  by_cases hc2 : p1 < p2
  ·  -- yes
    obtain ⟨fs, hr, hrun, hended, hW, hsame⟩ := X0.leave (v := some (.int (-1 : Int32))) (fun h => by rw [Bd.returns] at h; cases h)
    refine ⟨_, _, pre1 _ ?_, hrun, hended, _, _, rfl, ?_, ⟨_, rfl⟩, hW, hsame.mono (by decide) (by decide)⟩
    · show Steps p.tables e below (s₁.setTop (mkF m 2 #[.val (.int p1), .val (.int p2)] [(.int p2), (.int p1)])) _
      refine XS.icmpNo X0.here hx rfl (hb hby d7_2) rfl (tlt hc2).2.1 ?_
      show Steps p.tables e below (s₁.setTop (mkF m 5 #[.val (.int p1), .val (.int p2)] [])) _
      refine XS.iconst X0.here hx rfl (hb hby d7_5) ?_
      show Steps p.tables e below (s₁.setTop (mkF m 6 #[.val (.int p1), .val (.int p2)] [(.int (-1 : Int32))])) _
      refine XS.goto X0.here hx rfl (pc0 := 6) (pc' := 19) rfl (hb hby d7_6) (by decide) (by decide) ?_
      show Steps p.tables e below (s₁.setTop (mkF m 19 #[.val (.int p1), .val (.int p2)] [(.int (-1 : Int32))])) _
      exact retI X0 hx Bd.returns (hb hby d7_19) hr
    · show Q7 Z p1 p2 h0 n0 _ s₁.heap _
      rw [e0]
      exact ⟨(congrArg (fun z => some (Value.int z)) (by first | rfl | (simp only [own_b, own_cmp, if_pos hc2]; done) | (simp [own_b, own_cmp, hc2]; done))), N0, rfl⟩
  ·  -- no
    have pre3 : ∀ t, Steps p.tables e below (s₁.setTop (mkF m 11 #[.val (.int p1), .val (.int p2)] [(.int p2), (.int p1)])) t → Steps p.tables e below (s₁.setTop (entryFrame m #[(.int p1), (.int p2)] 2)) t := fun t k => pre1 t (by
      show Steps p.tables e below (s₁.setTop (mkF m 2 #[.val (.int p1), .val (.int p2)] [(.int p2), (.int p1)])) _
      refine XS.icmpYes X0.here hx rfl (pc0 := 2) (pc' := 9) rfl (hb hby d7_2) rfl (flt hc2).2.1 (by decide) (by decide) ?_
      show Steps p.tables e below (s₁.setTop (mkF m 9 #[.val (.int p1), .val (.int p2)] [])) _
      refine XS.iloadN X0.here hx rfl (hb hby d7_9) rfl  ?_
      show Steps p.tables e below (s₁.setTop (mkF m 10 #[.val (.int p1), .val (.int p2)] [(.int p1)])) _
      refine XS.iloadN X0.here hx rfl (hb hby d7_10) rfl  ?_
      exact k)
    by_cases hc4 : p1 = p2
    ·  -- yes
      obtain ⟨fs, hr, hrun, hended, hW, hsame⟩ := X0.leave (v := some (.int (0 : Int32))) (fun h => by rw [Bd.returns] at h; cases h)
      refine ⟨_, _, pre3 _ ?_, hrun, hended, _, _, rfl, ?_, ⟨_, rfl⟩, hW, hsame.mono (by decide) (by decide)⟩
      · show Steps p.tables e below (s₁.setTop (mkF m 11 #[.val (.int p1), .val (.int p2)] [(.int p2), (.int p1)])) _
        refine XS.icmpNo X0.here hx rfl (hb hby d7_11) rfl (teq hc4).2 ?_
        show Steps p.tables e below (s₁.setTop (mkF m 14 #[.val (.int p1), .val (.int p2)] [])) _
        refine XS.iconst X0.here hx rfl (hb hby d7_14) ?_
        show Steps p.tables e below (s₁.setTop (mkF m 15 #[.val (.int p1), .val (.int p2)] [(.int (0 : Int32))])) _
        refine XS.goto X0.here hx rfl (pc0 := 15) (pc' := 19) rfl (hb hby d7_15) (by decide) (by decide) ?_
        show Steps p.tables e below (s₁.setTop (mkF m 19 #[.val (.int p1), .val (.int p2)] [(.int (0 : Int32))])) _
        exact retI X0 hx Bd.returns (hb hby d7_19) hr
      · show Q7 Z p1 p2 h0 n0 _ s₁.heap _
        rw [e0]
        exact ⟨(congrArg (fun z => some (Value.int z)) (by first | rfl | (simp only [own_b, own_cmp, if_neg hc2, if_pos hc4]; done) | (simp [own_b, own_cmp, hc2, hc4]; done))), N0, rfl⟩
    ·  -- no
      obtain ⟨fs, hr, hrun, hended, hW, hsame⟩ := X0.leave (v := some (.int (1 : Int32))) (fun h => by rw [Bd.returns] at h; cases h)
      refine ⟨_, _, pre3 _ ?_, hrun, hended, _, _, rfl, ?_, ⟨_, rfl⟩, hW, hsame.mono (by decide) (by decide)⟩
      · show Steps p.tables e below (s₁.setTop (mkF m 11 #[.val (.int p1), .val (.int p2)] [(.int p2), (.int p1)])) _
        refine XS.icmpYes X0.here hx rfl (pc0 := 11) (pc' := 18) rfl (hb hby d7_11) rfl (feq hc4).2 (by decide) (by decide) ?_
        show Steps p.tables e below (s₁.setTop (mkF m 18 #[.val (.int p1), .val (.int p2)] [])) _
        refine XS.iconst X0.here hx rfl (hb hby d7_18) ?_
        show Steps p.tables e below (s₁.setTop (mkF m 19 #[.val (.int p1), .val (.int p2)] [(.int (1 : Int32))])) _
        exact retI X0 hx Bd.returns (hb hby d7_19) hr
      · show Q7 Z p1 p2 h0 n0 _ s₁.heap _
        rw [e0]
        exact ⟨(congrArg (fun z => some (Value.int z)) (by first | rfl | (simp only [own_b, own_cmp, if_neg hc2, if_neg hc4]; done) | (simp [own_b, own_cmp, hc2, hc4]; done))), N0, rfl⟩
theorem d6_0 : decode prog_30_method_4_code 0 = .ok (.aload_n 0, 1) := by decide +kernel
theorem d6_1 : decode prog_30_method_4_code 1 = .ok (.getfield 7, 3) := by decide +kernel
theorem d6_4 : decode prog_30_method_4_code 4 = .ok (.aload_n 1, 1) := by decide +kernel
theorem d6_5 : decode prog_30_method_4_code 5 = .ok (.getfield 7, 3) := by decide +kernel
theorem d6_8 : decode prog_30_method_4_code 8 = .ok (.if_icmp .eq 17, 3) := by decide +kernel
theorem d6_25 : decode prog_30_method_4_code 25 = .ok (.aload_n 0, 1) := by decide +kernel
theorem d6_26 : decode prog_30_method_4_code 26 = .ok (.getfield 13, 3) := by decide +kernel
theorem d6_29 : decode prog_30_method_4_code 29 = .ok (.aload_n 1, 1) := by decide +kernel
theorem d6_30 : decode prog_30_method_4_code 30 = .ok (.getfield 13, 3) := by decide +kernel
theorem d6_33 : decode prog_30_method_4_code 33 = .ok (.invokestatic 17, 3) := by decide +kernel
theorem pd6 : parseMethodDescriptor "(II)I" = some ⟨[.int, .int], some .int⟩ := by decide +kernel
theorem d6_36 : decode prog_30_method_4_code 36 = .ok (.ireturn, 1) := by decide +kernel
theorem d6_11 : decode prog_30_method_4_code 11 = .ok (.aload_n 0, 1) := by decide +kernel
theorem d6_12 : decode prog_30_method_4_code 12 = .ok (.getfield 7, 3) := by decide +kernel
theorem d6_15 : decode prog_30_method_4_code 15 = .ok (.aload_n 1, 1) := by decide +kernel
theorem d6_16 : decode prog_30_method_4_code 16 = .ok (.getfield 7, 3) := by decide +kernel
theorem d6_19 : decode prog_30_method_4_code 19 = .ok (.invokestatic 17, 3) := by decide +kernel
theorem d6_22 : decode prog_30_method_4_code 22 = .ok (.goto 14, 3) := by decide +kernel
theorem ef6 (m : MethodId) (a1 : Addr) (a2 : Addr) : entryFrame m #[(.ref a1), (.ref a2)] 2 = mkF m 0 #[.val (.ref a1), .val (.ref a2)] [] := by first | (simp [entryFrame, mkF, argsToLocals, Value.category]; done) | rfl
def Q6 (Z : State) (a1 : Addr) (a2 : Addr) (x1 : Int32) (y1 : Int32) (x2 : Int32) (y2 : Int32) (h0 : Heap) (n0 : Nat) (v : Option Value) (h : Heap) (L : List Loc) : Prop := v = some (.int (if x1 = x2 then (own_cmp y1 y2) else (own_cmp x1 x2))) ∧ Fr n0 L ∧ h = h0
set_option maxRecDepth 65536 in
set_option maxHeartbeats 40000000 in
theorem rm6 (l : Launch) (Z : State) (a0 : Array Value) (hw : ∀ d ∈ tables_1, d.before a0 Z = true) (ws : List Jvm.Cond) (a1 : Addr) (a2 : Addr) (x1 : Int32) (y1 : Int32) (x2 : Int32) (y2 : Int32) (h0 : Heap) (n0 : Nat) (Z0 : n0 ≤ h0.size) (F1 : Fld Z h0 a1 "com/example/tackboard/tackboard/core/Pin" "x" "I" (.int x1)) (F2 : Fld Z h0 a1 "com/example/tackboard/tackboard/core/Pin" "y" "I" (.int y1)) (F3 : Fld Z h0 a2 "com/example/tackboard/tackboard/core/Pin" "x" "I" (.int x2)) (F4 : Fld Z h0 a2 "com/example/tackboard/tackboard/core/Pin" "y" "I" (.int y2)) :
    MetFree l (⟨"com/example/tackboard/tackboard/core/Pin", "compareTo", "(Lcom/example/tackboard/tackboard/core/Pin;)I"⟩ : MethodName) (head1 (Jvm.Cond.code (⟨"com/example/tackboard/tackboard/core/Pin", "compareTo", "(Lcom/example/tackboard/tackboard/core/Pin;)I"⟩ : MethodName) prog_30_method_4_code 2 (some .int) :: ws) ({ frames := 1, cells := 0, slots := 0, locals := 13 } : Room)) (fun a U => a = #[(.ref a1), (.ref a2)] ∧ Z.Warmed39 U.vm ∧ U.heap = h0) (fun _ _ _ _ _ => True) (fun _ U o U' => ∃ v L, o = .returned v ∧ Q6 Z a1 a2 x1 y1 x2 y2 h0 n0 v U'.heap L ∧ FrameEnd U o U' L ({ frames := 1, cells := 0, slots := 0, locals := 13 } : Room).cells ({ frames := 1, cells := 0, slots := 0, locals := 13 } : Room).slots) := by
  refine MetFree.of_bodySF (plainFor_of_name pn2) hisR ?_
  intro p e s m args below meth c s₁ Bd hml0 hP hK
  obtain ⟨rfl, hZ, hh⟩ := hP
  have hx := Bd.exec
  have hby := Bd.bytes
  have hml : c.maxLocals = 2 := hml0
  have hown : s.vm.findClass "com/example/tackboard/tackboard/core/Pin" = some m.cls := findClass_of_methodNamed Bd.named
  have hnm := (name_of_methodNamed Bd.named Bd.method).1
  have X0 : Stand p l e ({ frames := 1, cells := 0, slots := 0, locals := 13 } : Room) s m #[(.ref a1), (.ref a2)] below meth c s₁ [] 0 0 := Stand.of_body Bd
  have e0 : s₁.heap = h0 := by rw [← hh, Bd.state]; rfl
  have N0 := Fr.nil n0
  have pre0 : ∀ t, Steps p.tables e below (s₁.setTop (mkF m 0 #[.val (.ref a1), .val (.ref a2)] [])) t → Steps p.tables e below (s₁.setTop (entryFrame m #[(.ref a1), (.ref a2)] 2)) t := fun t k => castTop (ef6 m a1 a2) k
  obtain ⟨T1, X1, e1, st1⟩ := getF X0 hx hZ hown (host := "") (Or.inl (ow hw 14 rfl)) Via.refl e0 F1 (g := (mkF m 1 #[.val (.ref a1), .val (.ref a2)] [(.ref a1)])) rfl rfl (hb hby d6_1)
  obtain ⟨T2, X2, e2, st2⟩ := getF X1 hx hZ hown (host := "") (Or.inl (ow hw 14 rfl)) Via.refl e1 F3 (g := (mkF m 5 #[.val (.ref a1), .val (.ref a2)] [(.ref a2), (.int x1)])) rfl rfl (hb hby d6_5)
  have pre3 : ∀ t, Steps p.tables e below (T2.setTop (mkF m 8 #[.val (.ref a1), .val (.ref a2)] [(.int x2), (.int x1)])) t → Steps p.tables e below (s₁.setTop (entryFrame m #[(.ref a1), (.ref a2)] 2)) t := fun t k => pre0 t (by
    show Steps p.tables e below (s₁.setTop (mkF m 0 #[.val (.ref a1), .val (.ref a2)] [])) _
    refine XS.aloadN X0.here hx rfl (hb hby d6_0) rfl rfl ?_
    show Steps p.tables e below (s₁.setTop (mkF m 1 #[.val (.ref a1), .val (.ref a2)] [(.ref a1)])) _
    refine st1 _ ?_
    show Steps p.tables e below (T1.setTop (mkF m 4 #[.val (.ref a1), .val (.ref a2)] [(.int x1)])) _
    refine XS.aloadN X1.here hx rfl (hb hby d6_4) rfl rfl ?_
    show Steps p.tables e below (T1.setTop (mkF m 5 #[.val (.ref a1), .val (.ref a2)] [(.ref a2), (.int x1)])) _
    refine st2 _ ?_
    exact k)
  by_cases hc4 : x1 = x2
  ·  -- yes
    obtain ⟨T5, X5, e5, st5⟩ := getF X2 hx hZ hown (host := "") (Or.inl (ow hw 16 rfl)) Via.refl e2 F2 (g := (mkF m 26 #[.val (.ref a1), .val (.ref a2)] [(.ref a1)])) rfl rfl (hb hby d6_26)
    obtain ⟨T6, X6, e6, st6⟩ := getF X5 hx hZ hown (host := "") (Or.inl (ow hw 16 rfl)) Via.refl e5 F4 (g := (mkF m 30 #[.val (.ref a1), .val (.ref a2)] [(.ref a2), (.int y1)])) rfl rfl (hb hby d6_30)
    obtain ⟨_, _, ⟨T7, L7, k7, n7⟩, -, X7, ⟨Lc7, hQ7, l7, y7, z7⟩, st7⟩ := Jvm.LawKit.callS X6 hx (y := (⟨"java/lang/Integer", "compare", "(II)I"⟩ : MethodName)) hown (mvT hZ (ow hw 37 rfl)) (mvT hZ (ow hw 38 rfl)) (mvT hZ (ow hw 20 rfl)) (mvT hZ (ow hw 39 rfl)) (by decide) (backOf (W := 0) (rm7 l Z a0 hw [] y1 y2 h0 n0 Z0 ) hZ (ow hw 39 rfl) (ow hw 20 rfl) (by decide) (by decide)) (g := (mkF m 33 #[.val (.ref a1), .val (.ref a2)] [(.int y2), (.int y1)])) rfl (by rw [hml]; rfl) (argsL := [(.int y1), (.int y2)]) (rest := []) (lenOf pd6 rfl) rfl (by show 2 * 0 + _ ≤ _; exact Nat.le_of_eq rfl) (hb hby d6_33) (fun _ _ => ⟨rfl, e6, (by decide : 0 + 0 ≤ _), (by decide : 0 + 0 ≤ _)⟩)
    dsimp only [Pt.U, Pt.locs, Pt.cells, Pt.slots] at X7 l7 y7 z7 st7 hQ7
    subst l7 y7 z7
    obtain ⟨rfl, N7q, e7⟩ := hQ7
    have N7 := Fr.app N0 N7q
    obtain ⟨fs, hr, hrun, hended, hW, hsame⟩ := X7.leave (v := some (.int (own_cmp y1 y2))) (fun h => by rw [Bd.returns] at h; cases h)
    refine ⟨_, _, pre3 _ ?_, hrun, hended, _, _, rfl, ?_, ⟨_, rfl⟩, hW, hsame.mono (by decide) (by decide)⟩
    · show Steps p.tables e below (T2.setTop (mkF m 8 #[.val (.ref a1), .val (.ref a2)] [(.int x2), (.int x1)])) _
      refine XS.icmpYes X2.here hx rfl (pc0 := 8) (pc' := 25) rfl (hb hby d6_8) rfl (teq hc4).1 (by decide) (by decide) ?_
      show Steps p.tables e below (T2.setTop (mkF m 25 #[.val (.ref a1), .val (.ref a2)] [])) _
      refine XS.aloadN X2.here hx rfl (hb hby d6_25) rfl rfl ?_
      show Steps p.tables e below (T2.setTop (mkF m 26 #[.val (.ref a1), .val (.ref a2)] [(.ref a1)])) _
      refine st5 _ ?_
      show Steps p.tables e below (T5.setTop (mkF m 29 #[.val (.ref a1), .val (.ref a2)] [(.int y1)])) _
      refine XS.aloadN X5.here hx rfl (hb hby d6_29) rfl rfl ?_
      show Steps p.tables e below (T5.setTop (mkF m 30 #[.val (.ref a1), .val (.ref a2)] [(.ref a2), (.int y1)])) _
      refine st6 _ ?_
      show Steps p.tables e below (T6.setTop (mkF m 33 #[.val (.ref a1), .val (.ref a2)] [(.int y2), (.int y1)])) _
      refine st7 _ ?_
      show Steps p.tables e below (T7.setTop (mkF m 36 #[.val (.ref a1), .val (.ref a2)] [(.int (own_cmp y1 y2))])) _
      exact retI X7 hx Bd.returns (hb hby d6_36) hr
    · show Q6 Z a1 a2 x1 y1 x2 y2 h0 n0 _ T7.heap _
      rw [e7]
      exact ⟨(congrArg (fun z => some (Value.int z)) (by first | rfl | (simp only [own_b, if_pos hc4]; done) | (simp [own_b, hc4]; done))), N7, rfl⟩
  ·  -- no
    obtain ⟨T8, X8, e8, st8⟩ := getF X2 hx hZ hown (host := "") (Or.inl (ow hw 14 rfl)) Via.refl e2 F1 (g := (mkF m 12 #[.val (.ref a1), .val (.ref a2)] [(.ref a1)])) rfl rfl (hb hby d6_12)
    obtain ⟨T9, X9, e9, st9⟩ := getF X8 hx hZ hown (host := "") (Or.inl (ow hw 14 rfl)) Via.refl e8 F3 (g := (mkF m 16 #[.val (.ref a1), .val (.ref a2)] [(.ref a2), (.int x1)])) rfl rfl (hb hby d6_16)
    obtain ⟨_, _, ⟨T10, L10, k10, n10⟩, -, X10, ⟨Lc10, hQ10, l10, y10, z10⟩, st10⟩ := Jvm.LawKit.callS X9 hx (y := (⟨"java/lang/Integer", "compare", "(II)I"⟩ : MethodName)) hown (mvT hZ (ow hw 37 rfl)) (mvT hZ (ow hw 38 rfl)) (mvT hZ (ow hw 20 rfl)) (mvT hZ (ow hw 39 rfl)) (by decide) (backOf (W := 0) (rm7 l Z a0 hw [] x1 x2 h0 n0 Z0 ) hZ (ow hw 39 rfl) (ow hw 20 rfl) (by decide) (by decide)) (g := (mkF m 19 #[.val (.ref a1), .val (.ref a2)] [(.int x2), (.int x1)])) rfl (by rw [hml]; rfl) (argsL := [(.int x1), (.int x2)]) (rest := []) (lenOf pd6 rfl) rfl (by show 2 * 0 + _ ≤ _; exact Nat.le_of_eq rfl) (hb hby d6_19) (fun _ _ => ⟨rfl, e9, (by decide : 0 + 0 ≤ _), (by decide : 0 + 0 ≤ _)⟩)
    dsimp only [Pt.U, Pt.locs, Pt.cells, Pt.slots] at X10 l10 y10 z10 st10 hQ10
    subst l10 y10 z10
    obtain ⟨rfl, N10q, e10⟩ := hQ10
    have N10 := Fr.app N0 N10q
    obtain ⟨fs, hr, hrun, hended, hW, hsame⟩ := X10.leave (v := some (.int (own_cmp x1 x2))) (fun h => by rw [Bd.returns] at h; cases h)
    refine ⟨_, _, pre3 _ ?_, hrun, hended, _, _, rfl, ?_, ⟨_, rfl⟩, hW, hsame.mono (by decide) (by decide)⟩
    · show Steps p.tables e below (T2.setTop (mkF m 8 #[.val (.ref a1), .val (.ref a2)] [(.int x2), (.int x1)])) _
      refine XS.icmpNo X2.here hx rfl (hb hby d6_8) rfl (feq hc4).1 ?_
      show Steps p.tables e below (T2.setTop (mkF m 11 #[.val (.ref a1), .val (.ref a2)] [])) _
      refine XS.aloadN X2.here hx rfl (hb hby d6_11) rfl rfl ?_
      show Steps p.tables e below (T2.setTop (mkF m 12 #[.val (.ref a1), .val (.ref a2)] [(.ref a1)])) _
      refine st8 _ ?_
      show Steps p.tables e below (T8.setTop (mkF m 15 #[.val (.ref a1), .val (.ref a2)] [(.int x1)])) _
      refine XS.aloadN X8.here hx rfl (hb hby d6_15) rfl rfl ?_
      show Steps p.tables e below (T8.setTop (mkF m 16 #[.val (.ref a1), .val (.ref a2)] [(.ref a2), (.int x1)])) _
      refine st9 _ ?_
      show Steps p.tables e below (T9.setTop (mkF m 19 #[.val (.ref a1), .val (.ref a2)] [(.int x2), (.int x1)])) _
      refine st10 _ ?_
      show Steps p.tables e below (T10.setTop (mkF m 22 #[.val (.ref a1), .val (.ref a2)] [(.int (own_cmp x1 x2))])) _
      refine XS.goto X10.here hx rfl (pc0 := 22) (pc' := 36) rfl (hb hby d6_22) (by decide) (by decide) ?_
      show Steps p.tables e below (T10.setTop (mkF m 36 #[.val (.ref a1), .val (.ref a2)] [(.int (own_cmp x1 x2))])) _
      exact retI X10 hx Bd.returns (hb hby d6_36) hr
    · show Q6 Z a1 a2 x1 y1 x2 y2 h0 n0 _ T10.heap _
      rw [e10]
      exact ⟨(congrArg (fun z => some (Value.int z)) (by first | rfl | (simp only [own_b, if_neg hc4]; done) | (simp [own_b, hc4]; done))), N10, rfl⟩
theorem d8_0 : decode prog_30_method_2_code 0 = .ok (.aload_n 0, 1) := by decide +kernel
theorem d8_1 : decode prog_30_method_2_code 1 = .ok (.getfield 7, 3) := by decide +kernel
theorem d8_4 : decode prog_30_method_2_code 4 = .ok (.ldc 16, 2) := by decide +kernel
theorem d8_6 : decode prog_30_method_2_code 6 = .ok (.imul, 1) := by decide +kernel
theorem d8_7 : decode prog_30_method_2_code 7 = .ok (.aload_n 0, 1) := by decide +kernel
theorem d8_8 : decode prog_30_method_2_code 8 = .ok (.getfield 13, 3) := by decide +kernel
theorem d8_11 : decode prog_30_method_2_code 11 = .ok (.iadd, 1) := by decide +kernel
theorem d8_12 : decode prog_30_method_2_code 12 = .ok (.istore_n 1, 1) := by decide +kernel
theorem d8_13 : decode prog_30_method_2_code 13 = .ok (.iload_n 1, 1) := by decide +kernel
theorem d8_14 : decode prog_30_method_2_code 14 = .ok (.iload_n 1, 1) := by decide +kernel
theorem d8_15 : decode prog_30_method_2_code 15 = .ok (.bipush 16, 2) := by decide +kernel
theorem d8_17 : decode prog_30_method_2_code 17 = .ok (.iushr, 1) := by decide +kernel
theorem d8_18 : decode prog_30_method_2_code 18 = .ok (.ixor, 1) := by decide +kernel
theorem d8_19 : decode prog_30_method_2_code 19 = .ok (.istore_n 1, 1) := by decide +kernel
theorem d8_20 : decode prog_30_method_2_code 20 = .ok (.iload_n 1, 1) := by decide +kernel
theorem d8_21 : decode prog_30_method_2_code 21 = .ok (.ldc 16, 2) := by decide +kernel
theorem d8_23 : decode prog_30_method_2_code 23 = .ok (.imul, 1) := by decide +kernel
theorem d8_24 : decode prog_30_method_2_code 24 = .ok (.ireturn, 1) := by decide +kernel
theorem ef8 (m : MethodId) (a1 : Addr) : entryFrame m #[(.ref a1)] 2 = mkF m 0 #[.val (.ref a1), .unset] [] := by first | (simp [entryFrame, mkF, argsToLocals, Value.category]; done) | rfl
def Q8 (Z : State) (a1 : Addr) (x1 : Int32) (y1 : Int32) (h0 : Heap) (n0 : Nat) (v : Option Value) (h : Heap) (L : List Loc) : Prop := v = some (.int (own_hash x1 y1)) ∧ Fr n0 L ∧ h = h0
set_option maxRecDepth 65536 in
set_option maxHeartbeats 40000000 in
theorem rm8 (l : Launch) (Z : State) (a0 : Array Value) (hw : ∀ d ∈ tables_1, d.before a0 Z = true) (ws : List Jvm.Cond) (a1 : Addr) (x1 : Int32) (y1 : Int32) (h0 : Heap) (n0 : Nat) (Z0 : n0 ≤ h0.size) (F1 : Fld Z h0 a1 "com/example/tackboard/tackboard/core/Pin" "x" "I" (.int x1)) (F2 : Fld Z h0 a1 "com/example/tackboard/tackboard/core/Pin" "y" "I" (.int y1)) :
    MetFree l (⟨"com/example/tackboard/tackboard/core/Pin", "hashCode", "()I"⟩ : MethodName) (head1 (Jvm.Cond.code (⟨"com/example/tackboard/tackboard/core/Pin", "hashCode", "()I"⟩ : MethodName) prog_30_method_2_code 2 (some .int) :: ws) ({ frames := 0, cells := 0, slots := 0, locals := 0 } : Room)) (fun a U => a = #[(.ref a1)] ∧ Z.Warmed39 U.vm ∧ U.heap = h0) (fun _ _ _ _ _ => True) (fun _ U o U' => ∃ v L, o = .returned v ∧ Q8 Z a1 x1 y1 h0 n0 v U'.heap L ∧ FrameEnd U o U' L ({ frames := 0, cells := 0, slots := 0, locals := 0 } : Room).cells ({ frames := 0, cells := 0, slots := 0, locals := 0 } : Room).slots) := by
  refine MetFree.of_bodySF (plainFor_of_name pn2) hisR ?_
  intro p e s m args below meth c s₁ Bd hml0 hP hK
  obtain ⟨rfl, hZ, hh⟩ := hP
  have hx := Bd.exec
  have hby := Bd.bytes
  have hml : c.maxLocals = 2 := hml0
  have hown : s.vm.findClass "com/example/tackboard/tackboard/core/Pin" = some m.cls := findClass_of_methodNamed Bd.named
  have hnm := (name_of_methodNamed Bd.named Bd.method).1
  have X0 : Stand p l e ({ frames := 0, cells := 0, slots := 0, locals := 0 } : Room) s m #[(.ref a1)] below meth c s₁ [] 0 0 := Stand.of_body Bd
  have e0 : s₁.heap = h0 := by rw [← hh, Bd.state]; rfl
  have N0 := Fr.nil n0
  have pre0 : ∀ t, Steps p.tables e below (s₁.setTop (mkF m 0 #[.val (.ref a1), .unset] [])) t → Steps p.tables e below (s₁.setTop (entryFrame m #[(.ref a1)] 2)) t := fun t k => castTop (ef8 m a1) k
  obtain ⟨T1, X1, e1, st1⟩ := getF X0 hx hZ hown (host := "") (Or.inl (ow hw 14 rfl)) Via.refl e0 F1 (g := (mkF m 1 #[.val (.ref a1), .unset] [(.ref a1)])) rfl rfl (hb hby d8_1)
  obtain ⟨T2, X2, e2, st2⟩ := getF X1 hx hZ hown (host := "") (Or.inl (ow hw 16 rfl)) Via.refl e1 F2 (g := (mkF m 8 #[.val (.ref a1), .unset] [(.ref a1), (.int (x1 * (-1640531527 : Int32)))])) rfl rfl (hb hby d8_8)
  obtain ⟨fs, hr, hrun, hended, hW, hsame⟩ := X2.leave (v := some (.int ((((x1 * (-1640531527 : Int32)) + y1) ^^^ ((((x1 * (-1640531527 : Int32)) + y1).toUInt32 >>> ((16 : Int32) &&& 31).toUInt32).toInt32)) * (-1640531527 : Int32)))) (fun h => by rw [Bd.returns] at h; cases h)
  refine ⟨_, _, pre0 _ ?_, hrun, hended, _, _, rfl, ?_, ⟨_, rfl⟩, hW, hsame.mono (by decide) (by decide)⟩
  · show Steps p.tables e below (s₁.setTop (mkF m 0 #[.val (.ref a1), .unset] [])) _
    refine XS.aloadN X0.here hx rfl (hb hby d8_0) rfl rfl ?_
    show Steps p.tables e below (s₁.setTop (mkF m 1 #[.val (.ref a1), .unset] [(.ref a1)])) _
    refine st1 _ ?_
    show Steps p.tables e below (T1.setTop (mkF m 4 #[.val (.ref a1), .unset] [(.int x1)])) _
    refine X1.ldcInt hx hown (mvT hZ (ow hw 45 rfl)) (g := (mkF m 4 #[.val (.ref a1), .unset] [(.int x1)])) rfl (hb hby d8_4) _ ?_
    show Steps p.tables e below (T1.setTop (mkF m 6 #[.val (.ref a1), .unset] [(.int (-1640531527 : Int32)), (.int x1)])) _
    refine XS.imul X1.here hx rfl (hb hby d8_6) rfl ?_
    show Steps p.tables e below (T1.setTop (mkF m 7 #[.val (.ref a1), .unset] [(.int (x1 * (-1640531527 : Int32)))])) _
    refine XS.aloadN X1.here hx rfl (hb hby d8_7) rfl rfl ?_
    show Steps p.tables e below (T1.setTop (mkF m 8 #[.val (.ref a1), .unset] [(.ref a1), (.int (x1 * (-1640531527 : Int32)))])) _
    refine st2 _ ?_
    show Steps p.tables e below (T2.setTop (mkF m 11 #[.val (.ref a1), .unset] [(.int y1), (.int (x1 * (-1640531527 : Int32)))])) _
    refine XS.iadd X2.here hx rfl (hb hby d8_11) rfl ?_
    show Steps p.tables e below (T2.setTop (mkF m 12 #[.val (.ref a1), .unset] [(.int ((x1 * (-1640531527 : Int32)) + y1))])) _
    refine XS.istoreN X2.here hx rfl (hb hby d8_12) rfl (l' := #[.val (.ref a1), .val (.int ((x1 * (-1640531527 : Int32)) + y1))]) rfl ?_
    show Steps p.tables e below (T2.setTop (mkF m 13 #[.val (.ref a1), .val (.int ((x1 * (-1640531527 : Int32)) + y1))] [])) _
    refine XS.iloadN X2.here hx rfl (hb hby d8_13) rfl  ?_
    show Steps p.tables e below (T2.setTop (mkF m 14 #[.val (.ref a1), .val (.int ((x1 * (-1640531527 : Int32)) + y1))] [(.int ((x1 * (-1640531527 : Int32)) + y1))])) _
    refine XS.iloadN X2.here hx rfl (hb hby d8_14) rfl  ?_
    show Steps p.tables e below (T2.setTop (mkF m 15 #[.val (.ref a1), .val (.int ((x1 * (-1640531527 : Int32)) + y1))] [(.int ((x1 * (-1640531527 : Int32)) + y1)), (.int ((x1 * (-1640531527 : Int32)) + y1))])) _
    refine XS.bipush X2.here hx rfl (hb hby d8_15) ?_
    show Steps p.tables e below (T2.setTop (mkF m 17 #[.val (.ref a1), .val (.int ((x1 * (-1640531527 : Int32)) + y1))] [(.int (16 : Int32)), (.int ((x1 * (-1640531527 : Int32)) + y1)), (.int ((x1 * (-1640531527 : Int32)) + y1))])) _
    refine XS.iushr X2.here hx rfl (hb hby d8_17) rfl ?_
    show Steps p.tables e below (T2.setTop (mkF m 18 #[.val (.ref a1), .val (.int ((x1 * (-1640531527 : Int32)) + y1))] [(.int ((((x1 * (-1640531527 : Int32)) + y1).toUInt32 >>> ((16 : Int32) &&& 31).toUInt32).toInt32)), (.int ((x1 * (-1640531527 : Int32)) + y1))])) _
    refine XS.ixor X2.here hx rfl (hb hby d8_18) rfl ?_
    show Steps p.tables e below (T2.setTop (mkF m 19 #[.val (.ref a1), .val (.int ((x1 * (-1640531527 : Int32)) + y1))] [(.int (((x1 * (-1640531527 : Int32)) + y1) ^^^ ((((x1 * (-1640531527 : Int32)) + y1).toUInt32 >>> ((16 : Int32) &&& 31).toUInt32).toInt32)))])) _
    refine XS.istoreN X2.here hx rfl (hb hby d8_19) rfl (l' := #[.val (.ref a1), .val (.int (((x1 * (-1640531527 : Int32)) + y1) ^^^ ((((x1 * (-1640531527 : Int32)) + y1).toUInt32 >>> ((16 : Int32) &&& 31).toUInt32).toInt32)))]) rfl ?_
    show Steps p.tables e below (T2.setTop (mkF m 20 #[.val (.ref a1), .val (.int (((x1 * (-1640531527 : Int32)) + y1) ^^^ ((((x1 * (-1640531527 : Int32)) + y1).toUInt32 >>> ((16 : Int32) &&& 31).toUInt32).toInt32)))] [])) _
    refine XS.iloadN X2.here hx rfl (hb hby d8_20) rfl  ?_
    show Steps p.tables e below (T2.setTop (mkF m 21 #[.val (.ref a1), .val (.int (((x1 * (-1640531527 : Int32)) + y1) ^^^ ((((x1 * (-1640531527 : Int32)) + y1).toUInt32 >>> ((16 : Int32) &&& 31).toUInt32).toInt32)))] [(.int (((x1 * (-1640531527 : Int32)) + y1) ^^^ ((((x1 * (-1640531527 : Int32)) + y1).toUInt32 >>> ((16 : Int32) &&& 31).toUInt32).toInt32)))])) _
    refine X2.ldcInt hx hown (mvT hZ (ow hw 45 rfl)) (g := (mkF m 21 #[.val (.ref a1), .val (.int (((x1 * (-1640531527 : Int32)) + y1) ^^^ ((((x1 * (-1640531527 : Int32)) + y1).toUInt32 >>> ((16 : Int32) &&& 31).toUInt32).toInt32)))] [(.int (((x1 * (-1640531527 : Int32)) + y1) ^^^ ((((x1 * (-1640531527 : Int32)) + y1).toUInt32 >>> ((16 : Int32) &&& 31).toUInt32).toInt32)))])) rfl (hb hby d8_21) _ ?_
    show Steps p.tables e below (T2.setTop (mkF m 23 #[.val (.ref a1), .val (.int (((x1 * (-1640531527 : Int32)) + y1) ^^^ ((((x1 * (-1640531527 : Int32)) + y1).toUInt32 >>> ((16 : Int32) &&& 31).toUInt32).toInt32)))] [(.int (-1640531527 : Int32)), (.int (((x1 * (-1640531527 : Int32)) + y1) ^^^ ((((x1 * (-1640531527 : Int32)) + y1).toUInt32 >>> ((16 : Int32) &&& 31).toUInt32).toInt32)))])) _
    refine XS.imul X2.here hx rfl (hb hby d8_23) rfl ?_
    show Steps p.tables e below (T2.setTop (mkF m 24 #[.val (.ref a1), .val (.int (((x1 * (-1640531527 : Int32)) + y1) ^^^ ((((x1 * (-1640531527 : Int32)) + y1).toUInt32 >>> ((16 : Int32) &&& 31).toUInt32).toInt32)))] [(.int ((((x1 * (-1640531527 : Int32)) + y1) ^^^ ((((x1 * (-1640531527 : Int32)) + y1).toUInt32 >>> ((16 : Int32) &&& 31).toUInt32).toInt32)) * (-1640531527 : Int32)))])) _
    exact retI X2 hx Bd.returns (hb hby d8_24) hr
  · show Q8 Z a1 x1 y1 h0 n0 _ T2.heap _
    rw [e2]
    exact ⟨(congrArg (fun z => some (Value.int z)) (by first | rfl | (simp only [own_b]; done) | (simp [own_b]; done))), N0, rfl⟩
theorem pn7 : plainName "com/example/tackboard/tackboard/core/PinEqualsPinLaw" = true := by first | (simp [plainName, overriddenIn]; done) | decide +kernel
theorem pd8 : parseMethodDescriptor "(II)V" = some ⟨[.int, .int], none⟩ := by decide +kernel
theorem pd9 : parseMethodDescriptor "(I)Ljava/lang/Integer;" = some ⟨[.int], some (.object "java/lang/Integer")⟩ := by decide +kernel
theorem pd10 : parseMethodDescriptor "(Ljava/lang/Object;)Z" = some ⟨[(.object "java/lang/Object")], some .boolean⟩ := by decide +kernel
theorem pd11 : parseMethodDescriptor "(Lcom/example/tackboard/tackboard/core/Pin;)I" = some ⟨[(.object "com/example/tackboard/tackboard/core/Pin")], some .int⟩ := by decide +kernel
theorem pd12 : parseMethodDescriptor "()I" = some ⟨[], some .int⟩ := by decide +kernel
theorem ef0 (m : MethodId) (p0 : Int32) (p1 : Int32) (p2 : Int32) (p3 : Int32) (p4 : Int32) : entryFrame m #[(.int p0), (.int p1), (.int p2), (.int p3), (.int p4)] maxLocals = mkF m 0 #[.val (.int p0), .val (.int p1), .val (.int p2), .val (.int p3), .val (.int p4), .unset, .unset, .unset, .unset, .unset, .unset, .unset, .unset, .unset, .unset, .unset, .unset, .unset] [] := by first | (simp [entryFrame, mkF, argsToLocals, Value.category, maxLocals]; done) | rfl
def Q0 (Z : State) (p0 : Int32) (p1 : Int32) (p2 : Int32) (p3 : Int32) (p4 : Int32) (ca : Addr) (cl : Cell) (h0 : Heap) (n0 : Nat) (v : Option Value) (h : Heap) (L : List Loc) : Prop := v = some (.int (1 : Int32)) ∧ Fr n0 L
set_option maxRecDepth 65536 in
set_option maxHeartbeats 40000000 in
theorem rm0 (l : Launch) (Z : State) (a0 : Array Value) (hw : ∀ d ∈ tables_1, d.before a0 Z = true) (ws : List Jvm.Cond) (p0 : Int32) (p1 : Int32) (p2 : Int32) (p3 : Int32) (p4 : Int32) (ca : Addr) (cl : Cell) (h0 : Heap) (n0 : Nat) (Z0 : n0 ≤ h0.size) (S1 : Sta Z Z.heap "java/lang/Integer$IntegerCache" "high" "I" (.int (127 : Int32))) (S2 : Sta Z Z.heap "java/lang/Integer$IntegerCache" "cache" "[Ljava/lang/Integer;" (.ref ca)) (A1 : Arr Z Z.heap ca cl (.object "java/lang/Integer")) (hsz : cl.slots.size = 256) (hcc : ∀ j : Int32, ¬ (j < 0 ∨ cl.slots.size ≤ j.toNatClampNeg) → ∃ b, cl.slots[j.toNatClampNeg]? = some (.ref b) ∧ Exa Z Z.heap b "java/lang/Integer") (O1 : Old Z n0 h0) :
    MetFree l x (head1 (Jvm.Cond.code x code maxLocals ret :: ws) room_1) (fun a U => a = #[(.int p0), (.int p1), (.int p2), (.int p3), (.int p4)] ∧ Z.Warmed39 U.vm ∧ U.heap = h0) (fun _ _ _ _ _ => True) (fun _ U o U' => ∃ v L, o = .returned v ∧ Q0 Z p0 p1 p2 p3 p4 ca cl h0 n0 v U'.heap L ∧ FrameEnd U o U' L room_1.cells room_1.slots) := by
  refine MetFree.of_bodySF (plainFor_of_name pn7) hisR ?_
  intro p e s m args below meth c s₁ Bd hml0 hP hK
  obtain ⟨rfl, hZ, hh⟩ := hP
  have hx := Bd.exec
  have hby := Bd.bytes
  have hml : c.maxLocals = 18 := hml0
  have hown : s.vm.findClass "com/example/tackboard/tackboard/core/PinEqualsPinLaw" = some m.cls := findClass_of_methodNamed Bd.named
  have hnm := (name_of_methodNamed Bd.named Bd.method).1
  have X0 : Stand p l e room_1 s m #[(.int p0), (.int p1), (.int p2), (.int p3), (.int p4)] below meth c s₁ [] 0 0 := Stand.of_body Bd
  have e0 : s₁.heap = h0 := by rw [← hh, Bd.state]; rfl
  have N0 := Fr.nil n0
  have pre0 : ∀ t, Steps p.tables e below (s₁.setTop (mkF m 0 #[.val (.int p0), .val (.int p1), .val (.int p2), .val (.int p3), .val (.int p4), .unset, .unset, .unset, .unset, .unset, .unset, .unset, .unset, .unset, .unset, .unset, .unset, .unset] [])) t → Steps p.tables e below (s₁.setTop (entryFrame m #[(.int p0), (.int p1), (.int p2), (.int p3), (.int p4)] maxLocals)) t := fun t k => castTop (ef0 m p0 p1 p2 p3 p4) k
  have pre1 : ∀ t, Steps p.tables e below (s₁.setTop (mkF m 4 #[.val (.int p0), .val (.int p1), .val (.int p2), .val (.int p3), .val (.int p4), .unset, .unset, .unset, .unset, .unset, .unset, .unset, .unset, .unset, .unset, .unset, .unset, .unset] [(.int (p4 &&& (1 : Int32)))])) t → Steps p.tables e below (s₁.setTop (entryFrame m #[(.int p0), (.int p1), (.int p2), (.int p3), (.int p4)] maxLocals)) t := fun t k => pre0 t (by
    show Steps p.tables e below (s₁.setTop (mkF m 0 #[.val (.int p0), .val (.int p1), .val (.int p2), .val (.int p3), .val (.int p4), .unset, .unset, .unset, .unset, .unset, .unset, .unset, .unset, .unset, .unset, .unset, .unset, .unset] [])) _
    refine XS.iload X0.here hx rfl (hb hby at_0) rfl  ?_
    show Steps p.tables e below (s₁.setTop (mkF m 2 #[.val (.int p0), .val (.int p1), .val (.int p2), .val (.int p3), .val (.int p4), .unset, .unset, .unset, .unset, .unset, .unset, .unset, .unset, .unset, .unset, .unset, .unset, .unset] [(.int p4)])) _
    refine XS.iconst X0.here hx rfl (hb hby at_2) ?_
    show Steps p.tables e below (s₁.setTop (mkF m 3 #[.val (.int p0), .val (.int p1), .val (.int p2), .val (.int p3), .val (.int p4), .unset, .unset, .unset, .unset, .unset, .unset, .unset, .unset, .unset, .unset, .unset, .unset, .unset] [(.int (1 : Int32)), (.int p4)])) _
    refine XS.iand X0.here hx rfl (hb hby at_3) rfl ?_
    exact k)
  have pre3 : ∀ t, Steps p.tables e below (s₁.setTop (mkF m 12 #[.val (.int p0), .val (.int p1), .val (.int p2), .val (.int p3), .val (.int p4), .unset, .unset, .unset, .unset, .unset, .unset, .unset, .unset, .unset, .unset, .unset, .unset, .unset] [(.int (if (p4 &&& (1 : Int32)) = (0 : Int32) then p2 else p0))])) t → Steps p.tables e below (s₁.setTop (entryFrame m #[(.int p0), (.int p1), (.int p2), (.int p3), (.int p4)] maxLocals)) t := fun t k => pre1 t (by
    by_cases hc2 : (p4 &&& (1 : Int32)) = (0 : Int32)
    ·  -- yes
      show Steps p.tables e below (s₁.setTop (mkF m 4 #[.val (.int p0), .val (.int p1), .val (.int p2), .val (.int p3), .val (.int p4), .unset, .unset, .unset, .unset, .unset, .unset, .unset, .unset, .unset, .unset, .unset, .unset, .unset] [(.int (p4 &&& (1 : Int32)))])) _
      refine XS.ifYes X0.here hx rfl (pc0 := 4) (pc' := 11) rfl (hb hby at_4) rfl ((if0 _ _).trans (teq hc2).1) (by decide) (by decide) ?_
      show Steps p.tables e below (s₁.setTop (mkF m 11 #[.val (.int p0), .val (.int p1), .val (.int p2), .val (.int p3), .val (.int p4), .unset, .unset, .unset, .unset, .unset, .unset, .unset, .unset, .unset, .unset, .unset, .unset, .unset] [])) _
      refine XS.iloadN X0.here hx rfl (hb hby at_11) rfl  ?_
      have ek : (if (p4 &&& (1 : Int32)) = (0 : Int32) then p2 else p0) = p2 := by simp [own_b, hc2]
      rw [ek] at k
      exact k
    ·  -- no
      show Steps p.tables e below (s₁.setTop (mkF m 4 #[.val (.int p0), .val (.int p1), .val (.int p2), .val (.int p3), .val (.int p4), .unset, .unset, .unset, .unset, .unset, .unset, .unset, .unset, .unset, .unset, .unset, .unset, .unset] [(.int (p4 &&& (1 : Int32)))])) _
      refine XS.ifNo X0.here hx rfl (hb hby at_4) rfl ((if0 _ _).trans (feq hc2).1) ?_
      show Steps p.tables e below (s₁.setTop (mkF m 7 #[.val (.int p0), .val (.int p1), .val (.int p2), .val (.int p3), .val (.int p4), .unset, .unset, .unset, .unset, .unset, .unset, .unset, .unset, .unset, .unset, .unset, .unset, .unset] [])) _
      refine XS.iloadN X0.here hx rfl (hb hby at_7) rfl  ?_
      show Steps p.tables e below (s₁.setTop (mkF m 8 #[.val (.int p0), .val (.int p1), .val (.int p2), .val (.int p3), .val (.int p4), .unset, .unset, .unset, .unset, .unset, .unset, .unset, .unset, .unset, .unset, .unset, .unset, .unset] [(.int p0)])) _
      refine XS.goto X0.here hx rfl (pc0 := 8) (pc' := 12) rfl (hb hby at_8) (by decide) (by decide) ?_
      have ek : (if (p4 &&& (1 : Int32)) = (0 : Int32) then p2 else p0) = p0 := by simp [own_b, hc2]
      rw [ek] at k
      exact k)
  obtain ⟨bx, hbx⟩ : ∃ z, z = (if (p4 &&& (1 : Int32)) = (0 : Int32) then p2 else p0) := ⟨_, rfl⟩
  rw [← hbx] at pre3
  have pre4 : ∀ t, Steps p.tables e below (s₁.setTop (mkF m 18 #[.val (.int p0), .val (.int p1), .val (.int p2), .val (.int p3), .val (.int p4), .val (.int bx), .unset, .unset, .unset, .unset, .unset, .unset, .unset, .unset, .unset, .unset, .unset, .unset] [(.int (p4 &&& (2 : Int32)))])) t → Steps p.tables e below (s₁.setTop (entryFrame m #[(.int p0), (.int p1), (.int p2), (.int p3), (.int p4)] maxLocals)) t := fun t k => pre3 t (by
    show Steps p.tables e below (s₁.setTop (mkF m 12 #[.val (.int p0), .val (.int p1), .val (.int p2), .val (.int p3), .val (.int p4), .unset, .unset, .unset, .unset, .unset, .unset, .unset, .unset, .unset, .unset, .unset, .unset, .unset] [(.int bx)])) _
    refine XS.istore X0.here hx rfl (hb hby at_12) rfl (l' := #[.val (.int p0), .val (.int p1), .val (.int p2), .val (.int p3), .val (.int p4), .val (.int bx), .unset, .unset, .unset, .unset, .unset, .unset, .unset, .unset, .unset, .unset, .unset, .unset]) rfl ?_
    show Steps p.tables e below (s₁.setTop (mkF m 14 #[.val (.int p0), .val (.int p1), .val (.int p2), .val (.int p3), .val (.int p4), .val (.int bx), .unset, .unset, .unset, .unset, .unset, .unset, .unset, .unset, .unset, .unset, .unset, .unset] [])) _
    refine XS.iload X0.here hx rfl (hb hby at_14) rfl  ?_
    show Steps p.tables e below (s₁.setTop (mkF m 16 #[.val (.int p0), .val (.int p1), .val (.int p2), .val (.int p3), .val (.int p4), .val (.int bx), .unset, .unset, .unset, .unset, .unset, .unset, .unset, .unset, .unset, .unset, .unset, .unset] [(.int p4)])) _
    refine XS.iconst X0.here hx rfl (hb hby at_16) ?_
    show Steps p.tables e below (s₁.setTop (mkF m 17 #[.val (.int p0), .val (.int p1), .val (.int p2), .val (.int p3), .val (.int p4), .val (.int bx), .unset, .unset, .unset, .unset, .unset, .unset, .unset, .unset, .unset, .unset, .unset, .unset] [(.int (2 : Int32)), (.int p4)])) _
    refine XS.iand X0.here hx rfl (hb hby at_17) rfl ?_
    exact k)
  have pre6 : ∀ t, Steps p.tables e below (s₁.setTop (mkF m 26 #[.val (.int p0), .val (.int p1), .val (.int p2), .val (.int p3), .val (.int p4), .val (.int bx), .unset, .unset, .unset, .unset, .unset, .unset, .unset, .unset, .unset, .unset, .unset, .unset] [(.int (if (p4 &&& (2 : Int32)) = (0 : Int32) then p3 else p1))])) t → Steps p.tables e below (s₁.setTop (entryFrame m #[(.int p0), (.int p1), (.int p2), (.int p3), (.int p4)] maxLocals)) t := fun t k => pre4 t (by
    by_cases hc5 : (p4 &&& (2 : Int32)) = (0 : Int32)
    ·  -- yes
      show Steps p.tables e below (s₁.setTop (mkF m 18 #[.val (.int p0), .val (.int p1), .val (.int p2), .val (.int p3), .val (.int p4), .val (.int bx), .unset, .unset, .unset, .unset, .unset, .unset, .unset, .unset, .unset, .unset, .unset, .unset] [(.int (p4 &&& (2 : Int32)))])) _
      refine XS.ifYes X0.here hx rfl (pc0 := 18) (pc' := 25) rfl (hb hby at_18) rfl ((if0 _ _).trans (teq hc5).1) (by decide) (by decide) ?_
      show Steps p.tables e below (s₁.setTop (mkF m 25 #[.val (.int p0), .val (.int p1), .val (.int p2), .val (.int p3), .val (.int p4), .val (.int bx), .unset, .unset, .unset, .unset, .unset, .unset, .unset, .unset, .unset, .unset, .unset, .unset] [])) _
      refine XS.iloadN X0.here hx rfl (hb hby at_25) rfl  ?_
      have ek : (if (p4 &&& (2 : Int32)) = (0 : Int32) then p3 else p1) = p3 := by simp [own_b, hc5]
      rw [ek] at k
      exact k
    ·  -- no
      show Steps p.tables e below (s₁.setTop (mkF m 18 #[.val (.int p0), .val (.int p1), .val (.int p2), .val (.int p3), .val (.int p4), .val (.int bx), .unset, .unset, .unset, .unset, .unset, .unset, .unset, .unset, .unset, .unset, .unset, .unset] [(.int (p4 &&& (2 : Int32)))])) _
      refine XS.ifNo X0.here hx rfl (hb hby at_18) rfl ((if0 _ _).trans (feq hc5).1) ?_
      show Steps p.tables e below (s₁.setTop (mkF m 21 #[.val (.int p0), .val (.int p1), .val (.int p2), .val (.int p3), .val (.int p4), .val (.int bx), .unset, .unset, .unset, .unset, .unset, .unset, .unset, .unset, .unset, .unset, .unset, .unset] [])) _
      refine XS.iloadN X0.here hx rfl (hb hby at_21) rfl  ?_
      show Steps p.tables e below (s₁.setTop (mkF m 22 #[.val (.int p0), .val (.int p1), .val (.int p2), .val (.int p3), .val (.int p4), .val (.int bx), .unset, .unset, .unset, .unset, .unset, .unset, .unset, .unset, .unset, .unset, .unset, .unset] [(.int p1)])) _
      refine XS.goto X0.here hx rfl (pc0 := 22) (pc' := 26) rfl (hb hby at_22) (by decide) (by decide) ?_
      have ek : (if (p4 &&& (2 : Int32)) = (0 : Int32) then p3 else p1) = p1 := by simp [own_b, hc5]
      rw [ek] at k
      exact k)
  obtain ⟨bz, hbz⟩ : ∃ z, z = (if (p4 &&& (2 : Int32)) = (0 : Int32) then p3 else p1) := ⟨_, rfl⟩
  rw [← hbz] at pre6
  obtain ⟨T7, h7, X7, e7, E7, A7, D7, -, st7⟩ := newO X0 hx hZ hown (ow hw 0 rfl) (ow hw 1 rfl) (ow hw 2 rfl) e0 (g := (mkF m 28 #[.val (.int p0), .val (.int p1), .val (.int p2), .val (.int p3), .val (.int p4), .val (.int bx), .val (.int bz), .unset, .unset, .unset, .unset, .unset, .unset, .unset, .unset, .unset, .unset, .unset] [])) rfl (hb hby at_28) (by decide) (by decide)
  obtain ⟨b7, g7⟩ : ∃ z, z = h0.size := ⟨_, rfl⟩
  rw [← g7] at A7 D7 st7
  have gn_b7 : n0 ≤ b7 := Nat.le_trans Z0 (Nat.le_of_eq g7.symm)
  have Z8 : n0 ≤ h7.size := Nat.le_trans Z0 E7.1
  have F_x_b7 : Fld Z h7 b7 "com/example/tackboard/tackboard/core/Pin" "x" "I" (.int (0 : Int32)) := D7 (Or.inr (ow hw 15 rfl)) (ty := .int) (by decide)
  have F_y_b7 : Fld Z h7 b7 "com/example/tackboard/tackboard/core/Pin" "y" "I" (.int (0 : Int32)) := D7 (Or.inr (ow hw 17 rfl)) (ty := .int) (by decide)
  obtain ⟨_, _, ⟨T9, L9, k9, n9⟩, -, X9, ⟨Lc9, hQ9, l9, y9, z9⟩, st9⟩ := X7.specialBack hx (y := (⟨"com/example/tackboard/tackboard/core/Pin", "<init>", "(II)V"⟩ : MethodName)) rfl hown (mvT hZ (ow hw 3 rfl)) (mvT hZ (ow hw 4 rfl)) (mvT hZ (ow hw 5 rfl)) (by decide) (backOf (W := 1) (rm1 l Z a0 hw [] b7 p0 p1 (.int (0 : Int32)) (.int (0 : Int32)) h7 n0 Z8 A7 F_x_b7 F_y_b7 gn_b7) hZ (ow hw 5 rfl) (ow hw 2 rfl) (by decide) (by decide)) (g := (mkF m 34 #[.val (.int p0), .val (.int p1), .val (.int p2), .val (.int p3), .val (.int p4), .val (.int bx), .val (.int bz), .unset, .unset, .unset, .unset, .unset, .unset, .unset, .unset, .unset, .unset, .unset] [(.int p1), (.int p0), (.ref b7), (.ref b7)])) rfl (by rw [hml]; rfl) (Steps.refl _) (a := b7) (argsL := [(.int p0), (.int p1)]) (rest := [(.ref b7)]) (lenOf pd8 rfl) rfl (by show 2 * 0 + _ ≤ _; exact Nat.le_of_eq rfl) (hb hby at_34) (fun _ _ => ⟨rfl, e7, (by decide : 1 + 0 ≤ _), (by decide : 2 + 0 ≤ _)⟩)
  dsimp only [Pt.U, Pt.locs, Pt.cells, Pt.slots] at X9 l9 y9 z9 st9 hQ9
  subst l9 y9 z9
  obtain ⟨rfl, N9q, K9, f9_0, f9_1, f9_2⟩ := hQ9
  have N9 := Fr.app N0 N9q
  have Z10 : n0 ≤ T9.heap.size := Nat.le_trans Z8 K9.1
  obtain ⟨T11, h11, X11, e11, E11, A11, D11, -, st11⟩ := newO X9 hx hZ hown (ow hw 0 rfl) (ow hw 1 rfl) (ow hw 2 rfl) rfl (g := (mkF m 39 #[.val (.int p0), .val (.int p1), .val (.int p2), .val (.int p3), .val (.int p4), .val (.int bx), .val (.int bz), .val (.ref b7), .unset, .unset, .unset, .unset, .unset, .unset, .unset, .unset, .unset, .unset] [])) rfl (hb hby at_39) (by decide) (by decide)
  obtain ⟨b11, g11⟩ : ∃ z, z = T9.heap.size := ⟨_, rfl⟩
  rw [← g11] at A11 D11 st11
  have ne12 : b7 ≠ b11 := Nat.ne_of_lt (Nat.lt_of_lt_of_le f9_0.lt (Nat.le_of_eq g11.symm))
  have gn_b11 : n0 ≤ b11 := Nat.le_trans Z10 (Nat.le_of_eq g11.symm)
  have Z13 : n0 ≤ h11.size := Nat.le_trans Z10 E11.1
  have F_x_b11 : Fld Z h11 b11 "com/example/tackboard/tackboard/core/Pin" "x" "I" (.int (0 : Int32)) := D11 (Or.inr (ow hw 15 rfl)) (ty := .int) (by decide)
  have F_y_b11 : Fld Z h11 b11 "com/example/tackboard/tackboard/core/Pin" "y" "I" (.int (0 : Int32)) := D11 (Or.inr (ow hw 17 rfl)) (ty := .int) (by decide)
  obtain ⟨_, _, ⟨T14, L14, k14, n14⟩, -, X14, ⟨Lc14, hQ14, l14, y14, z14⟩, st14⟩ := X11.specialBack hx (y := (⟨"com/example/tackboard/tackboard/core/Pin", "<init>", "(II)V"⟩ : MethodName)) rfl hown (mvT hZ (ow hw 3 rfl)) (mvT hZ (ow hw 4 rfl)) (mvT hZ (ow hw 5 rfl)) (by decide) (backOf (W := 1) (rm1 l Z a0 hw [] b11 bx bz (.int (0 : Int32)) (.int (0 : Int32)) h11 n0 Z13 A11 F_x_b11 F_y_b11 gn_b11) hZ (ow hw 5 rfl) (ow hw 2 rfl) (by decide) (by decide)) (g := (mkF m 47 #[.val (.int p0), .val (.int p1), .val (.int p2), .val (.int p3), .val (.int p4), .val (.int bx), .val (.int bz), .val (.ref b7), .unset, .unset, .unset, .unset, .unset, .unset, .unset, .unset, .unset, .unset] [(.int bz), (.int bx), (.ref b11), (.ref b11)])) rfl (by rw [hml]; rfl) (Steps.refl _) (a := b11) (argsL := [(.int bx), (.int bz)]) (rest := [(.ref b11)]) (lenOf pd8 rfl) rfl (by show 2 * 0 + _ ≤ _; exact Nat.le_of_eq rfl) (hb hby at_47) (fun _ _ => ⟨rfl, e11, (by decide : 2 + 0 ≤ _), (by decide : 4 + 0 ≤ _)⟩)
  dsimp only [Pt.U, Pt.locs, Pt.cells, Pt.slots] at X14 l14 y14 z14 st14 hQ14
  subst l14 y14 z14
  obtain ⟨rfl, N14q, K14, f14_0, f14_1, f14_2⟩ := hQ14
  have N14 := Fr.app N9 N14q
  have Z15 : n0 ≤ T14.heap.size := Nat.le_trans Z13 K14.1
  have fa16 : Old Z n0 T14.heap := ((((O1.ext E7).keep K9 (allS (P := fun x => n0 ≤ x) gn_b7 all0)).ext E11).keep K14 (allS (P := fun x => n0 ≤ x) gn_b11 all0))
  obtain ⟨_, _, ⟨T17, L17, k17, n17⟩, -, X17, ⟨Lc17, hQ17, l17, y17, z17⟩, st17⟩ := Jvm.LawKit.callS X14 hx (y := (⟨"java/lang/Integer", "valueOf", "(I)Ljava/lang/Integer;"⟩ : MethodName)) hown (mvT hZ (ow hw 18 rfl)) (mvT hZ (ow hw 19 rfl)) (mvT hZ (ow hw 20 rfl)) (mvT hZ (ow hw 21 rfl)) (by decide) (backOf (W := 0) (rm4 l Z a0 hw [] p0 ca cl T14.heap n0 Z15 S1 S2 A1 (by first | assumption | decide | omega) (by first | assumption | decide | omega) fa16) hZ (ow hw 21 rfl) (ow hw 20 rfl) (by decide) (by decide)) (g := (mkF m 53 #[.val (.int p0), .val (.int p1), .val (.int p2), .val (.int p3), .val (.int p4), .val (.int bx), .val (.int bz), .val (.ref b7), .val (.ref b11), .unset, .unset, .unset, .unset, .unset, .unset, .unset, .unset, .unset] [(.int p0)])) rfl (by rw [hml]; rfl) (argsL := [(.int p0)]) (rest := []) (lenOf pd9 rfl) rfl (by show 2 * 0 + _ ≤ _; exact Nat.le_of_eq rfl) (hb hby at_53) (fun _ _ => ⟨rfl, rfl, (by decide : 2 + 1 ≤ _), (by decide : 4 + 1 ≤ _)⟩)
  dsimp only [Pt.U, Pt.locs, Pt.cells, Pt.slots] at X17 l17 y17 z17 st17 hQ17
  subst l17 y17 z17
  obtain ⟨b_18, rfl, N17q, K17, f17_0⟩ := hQ17
  have N17 := Fr.app N14 N17q
  have Z19 : n0 ≤ T17.heap.size := Nat.le_trans Z15 K17.1
  have pre20 : ∀ t, Steps p.tables e below (T17.setTop (mkF m 64 #[.val (.int p0), .val (.int p1), .val (.int p2), .val (.int p3), .val (.int p4), .val (.int bx), .val (.int bz), .val (.ref b7), .val (.ref b11), .val (.ref b_18), .val (.int (0 : Int32)), .unset, .unset, .unset, .unset, .unset, .unset, .unset] [(.int bx), (.int p0)])) t → Steps p.tables e below (s₁.setTop (entryFrame m #[(.int p0), (.int p1), (.int p2), (.int p3), (.int p4)] maxLocals)) t := fun t k => pre6 t (by
    show Steps p.tables e below (s₁.setTop (mkF m 26 #[.val (.int p0), .val (.int p1), .val (.int p2), .val (.int p3), .val (.int p4), .val (.int bx), .unset, .unset, .unset, .unset, .unset, .unset, .unset, .unset, .unset, .unset, .unset, .unset] [(.int bz)])) _
    refine XS.istore X0.here hx rfl (hb hby at_26) rfl (l' := #[.val (.int p0), .val (.int p1), .val (.int p2), .val (.int p3), .val (.int p4), .val (.int bx), .val (.int bz), .unset, .unset, .unset, .unset, .unset, .unset, .unset, .unset, .unset, .unset, .unset]) rfl ?_
    show Steps p.tables e below (s₁.setTop (mkF m 28 #[.val (.int p0), .val (.int p1), .val (.int p2), .val (.int p3), .val (.int p4), .val (.int bx), .val (.int bz), .unset, .unset, .unset, .unset, .unset, .unset, .unset, .unset, .unset, .unset, .unset] [])) _
    refine st7 _ ?_
    show Steps p.tables e below (T7.setTop (mkF m 31 #[.val (.int p0), .val (.int p1), .val (.int p2), .val (.int p3), .val (.int p4), .val (.int bx), .val (.int bz), .unset, .unset, .unset, .unset, .unset, .unset, .unset, .unset, .unset, .unset, .unset] [(.ref b7)])) _
    refine XS.dup X7.here hx rfl (hb hby at_31) rfl rfl ?_
    show Steps p.tables e below (T7.setTop (mkF m 32 #[.val (.int p0), .val (.int p1), .val (.int p2), .val (.int p3), .val (.int p4), .val (.int bx), .val (.int bz), .unset, .unset, .unset, .unset, .unset, .unset, .unset, .unset, .unset, .unset, .unset] [(.ref b7), (.ref b7)])) _
    refine XS.iloadN X7.here hx rfl (hb hby at_32) rfl  ?_
    show Steps p.tables e below (T7.setTop (mkF m 33 #[.val (.int p0), .val (.int p1), .val (.int p2), .val (.int p3), .val (.int p4), .val (.int bx), .val (.int bz), .unset, .unset, .unset, .unset, .unset, .unset, .unset, .unset, .unset, .unset, .unset] [(.int p0), (.ref b7), (.ref b7)])) _
    refine XS.iloadN X7.here hx rfl (hb hby at_33) rfl  ?_
    show Steps p.tables e below (T7.setTop (mkF m 34 #[.val (.int p0), .val (.int p1), .val (.int p2), .val (.int p3), .val (.int p4), .val (.int bx), .val (.int bz), .unset, .unset, .unset, .unset, .unset, .unset, .unset, .unset, .unset, .unset, .unset] [(.int p1), (.int p0), (.ref b7), (.ref b7)])) _
    refine st9.trans ?_
    show Steps p.tables e below (T9.setTop (mkF m 37 #[.val (.int p0), .val (.int p1), .val (.int p2), .val (.int p3), .val (.int p4), .val (.int bx), .val (.int bz), .unset, .unset, .unset, .unset, .unset, .unset, .unset, .unset, .unset, .unset, .unset] [(.ref b7)])) _
    refine XS.astore X9.here hx rfl (hb hby at_37) rfl rfl (l' := #[.val (.int p0), .val (.int p1), .val (.int p2), .val (.int p3), .val (.int p4), .val (.int bx), .val (.int bz), .val (.ref b7), .unset, .unset, .unset, .unset, .unset, .unset, .unset, .unset, .unset, .unset]) rfl ?_
    show Steps p.tables e below (T9.setTop (mkF m 39 #[.val (.int p0), .val (.int p1), .val (.int p2), .val (.int p3), .val (.int p4), .val (.int bx), .val (.int bz), .val (.ref b7), .unset, .unset, .unset, .unset, .unset, .unset, .unset, .unset, .unset, .unset] [])) _
    refine st11 _ ?_
    show Steps p.tables e below (T11.setTop (mkF m 42 #[.val (.int p0), .val (.int p1), .val (.int p2), .val (.int p3), .val (.int p4), .val (.int bx), .val (.int bz), .val (.ref b7), .unset, .unset, .unset, .unset, .unset, .unset, .unset, .unset, .unset, .unset] [(.ref b11)])) _
    refine XS.dup X11.here hx rfl (hb hby at_42) rfl rfl ?_
    show Steps p.tables e below (T11.setTop (mkF m 43 #[.val (.int p0), .val (.int p1), .val (.int p2), .val (.int p3), .val (.int p4), .val (.int bx), .val (.int bz), .val (.ref b7), .unset, .unset, .unset, .unset, .unset, .unset, .unset, .unset, .unset, .unset] [(.ref b11), (.ref b11)])) _
    refine XS.iload X11.here hx rfl (hb hby at_43) rfl  ?_
    show Steps p.tables e below (T11.setTop (mkF m 45 #[.val (.int p0), .val (.int p1), .val (.int p2), .val (.int p3), .val (.int p4), .val (.int bx), .val (.int bz), .val (.ref b7), .unset, .unset, .unset, .unset, .unset, .unset, .unset, .unset, .unset, .unset] [(.int bx), (.ref b11), (.ref b11)])) _
    refine XS.iload X11.here hx rfl (hb hby at_45) rfl  ?_
    show Steps p.tables e below (T11.setTop (mkF m 47 #[.val (.int p0), .val (.int p1), .val (.int p2), .val (.int p3), .val (.int p4), .val (.int bx), .val (.int bz), .val (.ref b7), .unset, .unset, .unset, .unset, .unset, .unset, .unset, .unset, .unset, .unset] [(.int bz), (.int bx), (.ref b11), (.ref b11)])) _
    refine st14.trans ?_
    show Steps p.tables e below (T14.setTop (mkF m 50 #[.val (.int p0), .val (.int p1), .val (.int p2), .val (.int p3), .val (.int p4), .val (.int bx), .val (.int bz), .val (.ref b7), .unset, .unset, .unset, .unset, .unset, .unset, .unset, .unset, .unset, .unset] [(.ref b11)])) _
    refine XS.astore X14.here hx rfl (hb hby at_50) rfl rfl (l' := #[.val (.int p0), .val (.int p1), .val (.int p2), .val (.int p3), .val (.int p4), .val (.int bx), .val (.int bz), .val (.ref b7), .val (.ref b11), .unset, .unset, .unset, .unset, .unset, .unset, .unset, .unset, .unset]) rfl ?_
    show Steps p.tables e below (T14.setTop (mkF m 52 #[.val (.int p0), .val (.int p1), .val (.int p2), .val (.int p3), .val (.int p4), .val (.int bx), .val (.int bz), .val (.ref b7), .val (.ref b11), .unset, .unset, .unset, .unset, .unset, .unset, .unset, .unset, .unset] [])) _
    refine XS.iloadN X14.here hx rfl (hb hby at_52) rfl  ?_
    show Steps p.tables e below (T14.setTop (mkF m 53 #[.val (.int p0), .val (.int p1), .val (.int p2), .val (.int p3), .val (.int p4), .val (.int bx), .val (.int bz), .val (.ref b7), .val (.ref b11), .unset, .unset, .unset, .unset, .unset, .unset, .unset, .unset, .unset] [(.int p0)])) _
    refine st17 _ ?_
    show Steps p.tables e below (T17.setTop (mkF m 56 #[.val (.int p0), .val (.int p1), .val (.int p2), .val (.int p3), .val (.int p4), .val (.int bx), .val (.int bz), .val (.ref b7), .val (.ref b11), .unset, .unset, .unset, .unset, .unset, .unset, .unset, .unset, .unset] [(.ref b_18)])) _
    refine XS.astore X17.here hx rfl (hb hby at_56) rfl rfl (l' := #[.val (.int p0), .val (.int p1), .val (.int p2), .val (.int p3), .val (.int p4), .val (.int bx), .val (.int bz), .val (.ref b7), .val (.ref b11), .val (.ref b_18), .unset, .unset, .unset, .unset, .unset, .unset, .unset, .unset]) rfl ?_
    show Steps p.tables e below (T17.setTop (mkF m 58 #[.val (.int p0), .val (.int p1), .val (.int p2), .val (.int p3), .val (.int p4), .val (.int bx), .val (.int bz), .val (.ref b7), .val (.ref b11), .val (.ref b_18), .unset, .unset, .unset, .unset, .unset, .unset, .unset, .unset] [])) _
    refine XS.iconst X17.here hx rfl (hb hby at_58) ?_
    show Steps p.tables e below (T17.setTop (mkF m 59 #[.val (.int p0), .val (.int p1), .val (.int p2), .val (.int p3), .val (.int p4), .val (.int bx), .val (.int bz), .val (.ref b7), .val (.ref b11), .val (.ref b_18), .unset, .unset, .unset, .unset, .unset, .unset, .unset, .unset] [(.int (0 : Int32))])) _
    refine XS.istore X17.here hx rfl (hb hby at_59) rfl (l' := #[.val (.int p0), .val (.int p1), .val (.int p2), .val (.int p3), .val (.int p4), .val (.int bx), .val (.int bz), .val (.ref b7), .val (.ref b11), .val (.ref b_18), .val (.int (0 : Int32)), .unset, .unset, .unset, .unset, .unset, .unset, .unset]) rfl ?_
    show Steps p.tables e below (T17.setTop (mkF m 61 #[.val (.int p0), .val (.int p1), .val (.int p2), .val (.int p3), .val (.int p4), .val (.int bx), .val (.int bz), .val (.ref b7), .val (.ref b11), .val (.ref b_18), .val (.int (0 : Int32)), .unset, .unset, .unset, .unset, .unset, .unset, .unset] [])) _
    refine XS.iloadN X17.here hx rfl (hb hby at_61) rfl  ?_
    show Steps p.tables e below (T17.setTop (mkF m 62 #[.val (.int p0), .val (.int p1), .val (.int p2), .val (.int p3), .val (.int p4), .val (.int bx), .val (.int bz), .val (.ref b7), .val (.ref b11), .val (.ref b_18), .val (.int (0 : Int32)), .unset, .unset, .unset, .unset, .unset, .unset, .unset] [(.int p0)])) _
    refine XS.iload X17.here hx rfl (hb hby at_62) rfl  ?_
    exact k)
  have pre23 : ∀ t, Steps p.tables e below (T17.setTop (mkF m 76 #[.val (.int p0), .val (.int p1), .val (.int p2), .val (.int p3), .val (.int p4), .val (.int bx), .val (.int bz), .val (.ref b7), .val (.ref b11), .val (.ref b_18), .val (.int (own_b (p0 = bx ∧ p1 = bz))), .unset, .unset, .unset, .unset, .unset, .unset, .unset] [])) t → Steps p.tables e below (s₁.setTop (entryFrame m #[(.int p0), (.int p1), (.int p2), (.int p3), (.int p4)] maxLocals)) t := fun t k => pre20 t (by
    by_cases hc21 : p0 = bx
    ·  -- yes
      show Steps p.tables e below (T17.setTop (mkF m 64 #[.val (.int p0), .val (.int p1), .val (.int p2), .val (.int p3), .val (.int p4), .val (.int bx), .val (.int bz), .val (.ref b7), .val (.ref b11), .val (.ref b_18), .val (.int (0 : Int32)), .unset, .unset, .unset, .unset, .unset, .unset, .unset] [(.int bx), (.int p0)])) _
      refine XS.icmpNo X17.here hx rfl (hb hby at_64) rfl (teq hc21).2 ?_
      show Steps p.tables e below (T17.setTop (mkF m 67 #[.val (.int p0), .val (.int p1), .val (.int p2), .val (.int p3), .val (.int p4), .val (.int bx), .val (.int bz), .val (.ref b7), .val (.ref b11), .val (.ref b_18), .val (.int (0 : Int32)), .unset, .unset, .unset, .unset, .unset, .unset, .unset] [])) _
      refine XS.iloadN X17.here hx rfl (hb hby at_67) rfl  ?_
      show Steps p.tables e below (T17.setTop (mkF m 68 #[.val (.int p0), .val (.int p1), .val (.int p2), .val (.int p3), .val (.int p4), .val (.int bx), .val (.int bz), .val (.ref b7), .val (.ref b11), .val (.ref b_18), .val (.int (0 : Int32)), .unset, .unset, .unset, .unset, .unset, .unset, .unset] [(.int p1)])) _
      refine XS.iload X17.here hx rfl (hb hby at_68) rfl  ?_
      by_cases hc22 : p1 = bz
      ·  -- yes
        show Steps p.tables e below (T17.setTop (mkF m 70 #[.val (.int p0), .val (.int p1), .val (.int p2), .val (.int p3), .val (.int p4), .val (.int bx), .val (.int bz), .val (.ref b7), .val (.ref b11), .val (.ref b_18), .val (.int (0 : Int32)), .unset, .unset, .unset, .unset, .unset, .unset, .unset] [(.int bz), (.int p1)])) _
        refine XS.icmpNo X17.here hx rfl (hb hby at_70) rfl (teq hc22).2 ?_
        show Steps p.tables e below (T17.setTop (mkF m 73 #[.val (.int p0), .val (.int p1), .val (.int p2), .val (.int p3), .val (.int p4), .val (.int bx), .val (.int bz), .val (.ref b7), .val (.ref b11), .val (.ref b_18), .val (.int (0 : Int32)), .unset, .unset, .unset, .unset, .unset, .unset, .unset] [])) _
        refine XS.iconst X17.here hx rfl (hb hby at_73) ?_
        show Steps p.tables e below (T17.setTop (mkF m 74 #[.val (.int p0), .val (.int p1), .val (.int p2), .val (.int p3), .val (.int p4), .val (.int bx), .val (.int bz), .val (.ref b7), .val (.ref b11), .val (.ref b_18), .val (.int (0 : Int32)), .unset, .unset, .unset, .unset, .unset, .unset, .unset] [(.int (1 : Int32))])) _
        refine XS.istore X17.here hx rfl (hb hby at_74) rfl (l' := #[.val (.int p0), .val (.int p1), .val (.int p2), .val (.int p3), .val (.int p4), .val (.int bx), .val (.int bz), .val (.ref b7), .val (.ref b11), .val (.ref b_18), .val (.int (1 : Int32)), .unset, .unset, .unset, .unset, .unset, .unset, .unset]) rfl ?_
        have ek : (own_b (p0 = bx ∧ p1 = bz)) = (1 : Int32) := by simp [own_b, hc21, hc22]
        rw [ek] at k
        exact k
      ·  -- no
        show Steps p.tables e below (T17.setTop (mkF m 70 #[.val (.int p0), .val (.int p1), .val (.int p2), .val (.int p3), .val (.int p4), .val (.int bx), .val (.int bz), .val (.ref b7), .val (.ref b11), .val (.ref b_18), .val (.int (0 : Int32)), .unset, .unset, .unset, .unset, .unset, .unset, .unset] [(.int bz), (.int p1)])) _
        refine XS.icmpYes X17.here hx rfl (pc0 := 70) (pc' := 76) rfl (hb hby at_70) rfl (feq hc22).2 (by decide) (by decide) ?_
        have ek : (own_b (p0 = bx ∧ p1 = bz)) = (0 : Int32) := by simp [own_b, hc21, hc22]
        rw [ek] at k
        exact k
    ·  -- no
      show Steps p.tables e below (T17.setTop (mkF m 64 #[.val (.int p0), .val (.int p1), .val (.int p2), .val (.int p3), .val (.int p4), .val (.int bx), .val (.int bz), .val (.ref b7), .val (.ref b11), .val (.ref b_18), .val (.int (0 : Int32)), .unset, .unset, .unset, .unset, .unset, .unset, .unset] [(.int bx), (.int p0)])) _
      refine XS.icmpYes X17.here hx rfl (pc0 := 64) (pc' := 76) rfl (hb hby at_64) rfl (feq hc21).2 (by decide) (by decide) ?_
      have ek : (own_b (p0 = bx ∧ p1 = bz)) = (0 : Int32) := by simp [own_b, hc21]
      rw [ek] at k
      exact k)
  have fa24 : Exa Z T17.heap b11 "com/example/tackboard/tackboard/core/Pin" := (f14_0.keep K17)
  have fa25 : Fld Z T17.heap b7 "com/example/tackboard/tackboard/core/Pin" "x" "I" (.int p0) := (((f9_1.ext E11).keep K14 (ninS ne12 nin0)).keep K17 nin0)
  have fa26 : Fld Z T17.heap b7 "com/example/tackboard/tackboard/core/Pin" "y" "I" (.int p1) := (((f9_2.ext E11).keep K14 (ninS ne12 nin0)).keep K17 nin0)
  have fa27 : Fld Z T17.heap b11 "com/example/tackboard/tackboard/core/Pin" "x" "I" (.int bx) := (f14_1.keep K17 nin0)
  have fa28 : Fld Z T17.heap b11 "com/example/tackboard/tackboard/core/Pin" "y" "I" (.int bz) := (f14_2.keep K17 nin0)
  have fa30 : Exa Z T17.heap b7 "com/example/tackboard/tackboard/core/Pin" := (((f9_0.ext E11).keep K14).keep K17)
  obtain ⟨cq29, kq29, q29a, q29b, q29c⟩ := isOf hZ rfl fa30
  obtain ⟨_, _, ⟨T29, L29, k29, n29⟩, -, X29, ⟨Lc29, hQ29, l29, y29, z29⟩, st29⟩ := X17.virtualBack hx (y := (⟨"com/example/tackboard/tackboard/core/Pin", "equals", "(Ljava/lang/Object;)Z"⟩ : MethodName)) (z := (⟨"com/example/tackboard/tackboard/core/Pin", "equals", "(Ljava/lang/Object;)Z"⟩ : MethodName)) hown (mvT hZ (ow hw 25 rfl)) (mvT hZ (ow hw 26 rfl)) (notFace_of_selects (args := #[]) (mvT hZ (ow hw 28 rfl))) (mvT hZ (ow hw 28 rfl)) (mvT hZ (ow hw 27 rfl)) (by decide) (backOf (W := 0) (rm5p l Z a0 hw [] b7 b11 p0 p1 bx bz T17.heap n0 Z19 fa24 fa25 fa26 fa27 fa28) hZ (ow hw 29 rfl) (ow hw 2 rfl) (by decide) (by decide)) q29a q29c (g := (mkF m 80 #[.val (.int p0), .val (.int p1), .val (.int p2), .val (.int p3), .val (.int p4), .val (.int bx), .val (.int bz), .val (.ref b7), .val (.ref b11), .val (.ref b_18), .val (.int (own_b (p0 = bx ∧ p1 = bz))), .unset, .unset, .unset, .unset, .unset, .unset, .unset] [(.ref b11), (.ref b7)])) rfl (by rw [hml]; rfl) (Steps.refl _) (argsL := [(.ref b11)]) (rest := []) (lenOf pd10 rfl) rfl (by show 2 * 0 + _ ≤ _; exact Nat.le_of_eq rfl) (hb hby at_80) (fun _ _ => ⟨rfl, rfl, (by decide : 3 + 0 ≤ _), (by decide : 5 + 0 ≤ _)⟩)
  dsimp only [Pt.U, Pt.locs, Pt.cells, Pt.slots] at X29 l29 y29 z29 st29 hQ29
  subst l29 y29 z29
  obtain ⟨rfl, N29q, e29⟩ := hQ29
  have N29 := Fr.app N17 N29q
  obtain ⟨cq31, kq31, q31a, q31b, q31c⟩ := isOf hZ e29 fa24
  obtain ⟨_, _, ⟨T31, L31, k31, n31⟩, -, X31, ⟨Lc31, hQ31, l31, y31, z31⟩, st31⟩ := X29.virtualBack hx (y := (⟨"com/example/tackboard/tackboard/core/Pin", "equals", "(Ljava/lang/Object;)Z"⟩ : MethodName)) (z := (⟨"com/example/tackboard/tackboard/core/Pin", "equals", "(Ljava/lang/Object;)Z"⟩ : MethodName)) hown (mvT hZ (ow hw 25 rfl)) (mvT hZ (ow hw 26 rfl)) (notFace_of_selects (args := #[]) (mvT hZ (ow hw 28 rfl))) (mvT hZ (ow hw 28 rfl)) (mvT hZ (ow hw 27 rfl)) (by decide) (backOf (W := 0) (rm5p l Z a0 hw [] b11 b7 bx bz p0 p1 T17.heap n0 Z19 fa30 fa27 fa28 fa25 fa26) hZ (ow hw 29 rfl) (ow hw 2 rfl) (by decide) (by decide)) q31a q31c (g := (mkF m 89 #[.val (.int p0), .val (.int p1), .val (.int p2), .val (.int p3), .val (.int p4), .val (.int bx), .val (.int bz), .val (.ref b7), .val (.ref b11), .val (.ref b_18), .val (.int (own_b (p0 = bx ∧ p1 = bz))), .val (.int (own_b (bx = p0 ∧ bz = p1))), .unset, .unset, .unset, .unset, .unset, .unset] [(.ref b7), (.ref b11)])) rfl (by rw [hml]; rfl) (Steps.refl _) (argsL := [(.ref b7)]) (rest := []) (lenOf pd10 rfl) rfl (by show 2 * 0 + _ ≤ _; exact Nat.le_of_eq rfl) (hb hby at_89) (fun _ _ => ⟨rfl, e29, (by decide : 3 + 0 ≤ _), (by decide : 5 + 0 ≤ _)⟩)
  dsimp only [Pt.U, Pt.locs, Pt.cells, Pt.slots] at X31 l31 y31 z31 st31 hQ31
  subst l31 y31 z31
  obtain ⟨rfl, N31q, e31⟩ := hQ31
  have N31 := Fr.app N29 N31q
  obtain ⟨cq32, kq32, q32a, q32b, q32c⟩ := isOf hZ e31 fa30
  obtain ⟨_, _, ⟨T32, L32, k32, n32⟩, -, X32, ⟨Lc32, hQ32, l32, y32, z32⟩, st32⟩ := X31.virtualBack hx (y := (⟨"com/example/tackboard/tackboard/core/Pin", "equals", "(Ljava/lang/Object;)Z"⟩ : MethodName)) (z := (⟨"com/example/tackboard/tackboard/core/Pin", "equals", "(Ljava/lang/Object;)Z"⟩ : MethodName)) hown (mvT hZ (ow hw 25 rfl)) (mvT hZ (ow hw 26 rfl)) (notFace_of_selects (args := #[]) (mvT hZ (ow hw 28 rfl))) (mvT hZ (ow hw 28 rfl)) (mvT hZ (ow hw 27 rfl)) (by decide) (backOf (W := 0) (rm5p l Z a0 hw [] b7 b7 p0 p1 p0 p1 T17.heap n0 Z19 fa30 fa25 fa26 fa25 fa26) hZ (ow hw 29 rfl) (ow hw 2 rfl) (by decide) (by decide)) q32a q32c (g := (mkF m 98 #[.val (.int p0), .val (.int p1), .val (.int p2), .val (.int p3), .val (.int p4), .val (.int bx), .val (.int bz), .val (.ref b7), .val (.ref b11), .val (.ref b_18), .val (.int (own_b (p0 = bx ∧ p1 = bz))), .val (.int (own_b (bx = p0 ∧ bz = p1))), .val (.int (own_b (p0 = bx ∧ p1 = bz))), .unset, .unset, .unset, .unset, .unset] [(.ref b7), (.ref b7)])) rfl (by rw [hml]; rfl) (Steps.refl _) (argsL := [(.ref b7)]) (rest := []) (lenOf pd10 rfl) rfl (by show 2 * 0 + _ ≤ _; exact Nat.le_of_eq rfl) (hb hby at_98) (fun _ _ => ⟨rfl, e31, (by decide : 3 + 0 ≤ _), (by decide : 5 + 0 ≤ _)⟩)
  dsimp only [Pt.U, Pt.locs, Pt.cells, Pt.slots] at X32 l32 y32 z32 st32 hQ32
  subst l32 y32 z32
  obtain ⟨rfl, N32q, e32⟩ := hQ32
  have N32 := Fr.app N31 N32q
  obtain ⟨cq33, kq33, q33a, q33b, q33c⟩ := isOf hZ e32 fa30
  obtain ⟨_, _, ⟨T33, L33, k33, n33⟩, -, X33, ⟨Lc33, hQ33, l33, y33, z33⟩, st33⟩ := X32.virtualBack hx (y := (⟨"com/example/tackboard/tackboard/core/Pin", "compareTo", "(Lcom/example/tackboard/tackboard/core/Pin;)I"⟩ : MethodName)) (z := (⟨"com/example/tackboard/tackboard/core/Pin", "compareTo", "(Lcom/example/tackboard/tackboard/core/Pin;)I"⟩ : MethodName)) hown (mvT hZ (ow hw 32 rfl)) (mvT hZ (ow hw 33 rfl)) (notFace_of_selects (args := #[]) (mvT hZ (ow hw 35 rfl))) (mvT hZ (ow hw 35 rfl)) (mvT hZ (ow hw 34 rfl)) (by decide) (backOf (W := 0) (rm6 l Z a0 hw [] b7 b11 p0 p1 bx bz T17.heap n0 Z19 fa25 fa26 fa27 fa28) hZ (ow hw 36 rfl) (ow hw 2 rfl) (by decide) (by decide)) q33a q33c (g := (mkF m 107 #[.val (.int p0), .val (.int p1), .val (.int p2), .val (.int p3), .val (.int p4), .val (.int bx), .val (.int bz), .val (.ref b7), .val (.ref b11), .val (.ref b_18), .val (.int (own_b (p0 = bx ∧ p1 = bz))), .val (.int (own_b (bx = p0 ∧ bz = p1))), .val (.int (own_b (p0 = bx ∧ p1 = bz))), .val (.int (own_b (p0 = p0 ∧ p1 = p1))), .unset, .unset, .unset, .unset] [(.ref b11), (.ref b7)])) rfl (by rw [hml]; rfl) (Steps.refl _) (argsL := [(.ref b11)]) (rest := []) (lenOf pd11 rfl) rfl (by show 2 * 0 + _ ≤ _; exact Nat.le_of_eq rfl) (hb hby at_107) (fun _ _ => ⟨rfl, e32, (by decide : 3 + 0 ≤ _), (by decide : 5 + 0 ≤ _)⟩)
  dsimp only [Pt.U, Pt.locs, Pt.cells, Pt.slots] at X33 l33 y33 z33 st33 hQ33
  subst l33 y33 z33
  obtain ⟨rfl, N33q, e33⟩ := hQ33
  have N33 := Fr.app N32 N33q
  have pre34 : ∀ t, Steps p.tables e below (T33.setTop (mkF m 110 #[.val (.int p0), .val (.int p1), .val (.int p2), .val (.int p3), .val (.int p4), .val (.int bx), .val (.int bz), .val (.ref b7), .val (.ref b11), .val (.ref b_18), .val (.int (own_b (p0 = bx ∧ p1 = bz))), .val (.int (own_b (bx = p0 ∧ bz = p1))), .val (.int (own_b (p0 = bx ∧ p1 = bz))), .val (.int (own_b (p0 = p0 ∧ p1 = p1))), .unset, .unset, .unset, .unset] [(.int (if p0 = bx then (own_cmp p1 bz) else (own_cmp p0 bx)))])) t → Steps p.tables e below (s₁.setTop (entryFrame m #[(.int p0), (.int p1), (.int p2), (.int p3), (.int p4)] maxLocals)) t := fun t k => pre23 t (by
    show Steps p.tables e below (T17.setTop (mkF m 76 #[.val (.int p0), .val (.int p1), .val (.int p2), .val (.int p3), .val (.int p4), .val (.int bx), .val (.int bz), .val (.ref b7), .val (.ref b11), .val (.ref b_18), .val (.int (own_b (p0 = bx ∧ p1 = bz))), .unset, .unset, .unset, .unset, .unset, .unset, .unset] [])) _
    refine XS.aload X17.here hx rfl (hb hby at_76) rfl rfl ?_
    show Steps p.tables e below (T17.setTop (mkF m 78 #[.val (.int p0), .val (.int p1), .val (.int p2), .val (.int p3), .val (.int p4), .val (.int bx), .val (.int bz), .val (.ref b7), .val (.ref b11), .val (.ref b_18), .val (.int (own_b (p0 = bx ∧ p1 = bz))), .unset, .unset, .unset, .unset, .unset, .unset, .unset] [(.ref b7)])) _
    refine XS.aload X17.here hx rfl (hb hby at_78) rfl rfl ?_
    show Steps p.tables e below (T17.setTop (mkF m 80 #[.val (.int p0), .val (.int p1), .val (.int p2), .val (.int p3), .val (.int p4), .val (.int bx), .val (.int bz), .val (.ref b7), .val (.ref b11), .val (.ref b_18), .val (.int (own_b (p0 = bx ∧ p1 = bz))), .unset, .unset, .unset, .unset, .unset, .unset, .unset] [(.ref b11), (.ref b7)])) _
    refine st29.trans ?_
    show Steps p.tables e below (T29.setTop (mkF m 83 #[.val (.int p0), .val (.int p1), .val (.int p2), .val (.int p3), .val (.int p4), .val (.int bx), .val (.int bz), .val (.ref b7), .val (.ref b11), .val (.ref b_18), .val (.int (own_b (p0 = bx ∧ p1 = bz))), .unset, .unset, .unset, .unset, .unset, .unset, .unset] [(.int (own_b (bx = p0 ∧ bz = p1)))])) _
    refine XS.istore X29.here hx rfl (hb hby at_83) rfl (l' := #[.val (.int p0), .val (.int p1), .val (.int p2), .val (.int p3), .val (.int p4), .val (.int bx), .val (.int bz), .val (.ref b7), .val (.ref b11), .val (.ref b_18), .val (.int (own_b (p0 = bx ∧ p1 = bz))), .val (.int (own_b (bx = p0 ∧ bz = p1))), .unset, .unset, .unset, .unset, .unset, .unset]) rfl ?_
    show Steps p.tables e below (T29.setTop (mkF m 85 #[.val (.int p0), .val (.int p1), .val (.int p2), .val (.int p3), .val (.int p4), .val (.int bx), .val (.int bz), .val (.ref b7), .val (.ref b11), .val (.ref b_18), .val (.int (own_b (p0 = bx ∧ p1 = bz))), .val (.int (own_b (bx = p0 ∧ bz = p1))), .unset, .unset, .unset, .unset, .unset, .unset] [])) _
    refine XS.aload X29.here hx rfl (hb hby at_85) rfl rfl ?_
    show Steps p.tables e below (T29.setTop (mkF m 87 #[.val (.int p0), .val (.int p1), .val (.int p2), .val (.int p3), .val (.int p4), .val (.int bx), .val (.int bz), .val (.ref b7), .val (.ref b11), .val (.ref b_18), .val (.int (own_b (p0 = bx ∧ p1 = bz))), .val (.int (own_b (bx = p0 ∧ bz = p1))), .unset, .unset, .unset, .unset, .unset, .unset] [(.ref b11)])) _
    refine XS.aload X29.here hx rfl (hb hby at_87) rfl rfl ?_
    show Steps p.tables e below (T29.setTop (mkF m 89 #[.val (.int p0), .val (.int p1), .val (.int p2), .val (.int p3), .val (.int p4), .val (.int bx), .val (.int bz), .val (.ref b7), .val (.ref b11), .val (.ref b_18), .val (.int (own_b (p0 = bx ∧ p1 = bz))), .val (.int (own_b (bx = p0 ∧ bz = p1))), .unset, .unset, .unset, .unset, .unset, .unset] [(.ref b7), (.ref b11)])) _
    refine st31.trans ?_
    show Steps p.tables e below (T31.setTop (mkF m 92 #[.val (.int p0), .val (.int p1), .val (.int p2), .val (.int p3), .val (.int p4), .val (.int bx), .val (.int bz), .val (.ref b7), .val (.ref b11), .val (.ref b_18), .val (.int (own_b (p0 = bx ∧ p1 = bz))), .val (.int (own_b (bx = p0 ∧ bz = p1))), .unset, .unset, .unset, .unset, .unset, .unset] [(.int (own_b (p0 = bx ∧ p1 = bz)))])) _
    refine XS.istore X31.here hx rfl (hb hby at_92) rfl (l' := #[.val (.int p0), .val (.int p1), .val (.int p2), .val (.int p3), .val (.int p4), .val (.int bx), .val (.int bz), .val (.ref b7), .val (.ref b11), .val (.ref b_18), .val (.int (own_b (p0 = bx ∧ p1 = bz))), .val (.int (own_b (bx = p0 ∧ bz = p1))), .val (.int (own_b (p0 = bx ∧ p1 = bz))), .unset, .unset, .unset, .unset, .unset]) rfl ?_
    show Steps p.tables e below (T31.setTop (mkF m 94 #[.val (.int p0), .val (.int p1), .val (.int p2), .val (.int p3), .val (.int p4), .val (.int bx), .val (.int bz), .val (.ref b7), .val (.ref b11), .val (.ref b_18), .val (.int (own_b (p0 = bx ∧ p1 = bz))), .val (.int (own_b (bx = p0 ∧ bz = p1))), .val (.int (own_b (p0 = bx ∧ p1 = bz))), .unset, .unset, .unset, .unset, .unset] [])) _
    refine XS.aload X31.here hx rfl (hb hby at_94) rfl rfl ?_
    show Steps p.tables e below (T31.setTop (mkF m 96 #[.val (.int p0), .val (.int p1), .val (.int p2), .val (.int p3), .val (.int p4), .val (.int bx), .val (.int bz), .val (.ref b7), .val (.ref b11), .val (.ref b_18), .val (.int (own_b (p0 = bx ∧ p1 = bz))), .val (.int (own_b (bx = p0 ∧ bz = p1))), .val (.int (own_b (p0 = bx ∧ p1 = bz))), .unset, .unset, .unset, .unset, .unset] [(.ref b7)])) _
    refine XS.aload X31.here hx rfl (hb hby at_96) rfl rfl ?_
    show Steps p.tables e below (T31.setTop (mkF m 98 #[.val (.int p0), .val (.int p1), .val (.int p2), .val (.int p3), .val (.int p4), .val (.int bx), .val (.int bz), .val (.ref b7), .val (.ref b11), .val (.ref b_18), .val (.int (own_b (p0 = bx ∧ p1 = bz))), .val (.int (own_b (bx = p0 ∧ bz = p1))), .val (.int (own_b (p0 = bx ∧ p1 = bz))), .unset, .unset, .unset, .unset, .unset] [(.ref b7), (.ref b7)])) _
    refine st32.trans ?_
    show Steps p.tables e below (T32.setTop (mkF m 101 #[.val (.int p0), .val (.int p1), .val (.int p2), .val (.int p3), .val (.int p4), .val (.int bx), .val (.int bz), .val (.ref b7), .val (.ref b11), .val (.ref b_18), .val (.int (own_b (p0 = bx ∧ p1 = bz))), .val (.int (own_b (bx = p0 ∧ bz = p1))), .val (.int (own_b (p0 = bx ∧ p1 = bz))), .unset, .unset, .unset, .unset, .unset] [(.int (own_b (p0 = p0 ∧ p1 = p1)))])) _
    refine XS.istore X32.here hx rfl (hb hby at_101) rfl (l' := #[.val (.int p0), .val (.int p1), .val (.int p2), .val (.int p3), .val (.int p4), .val (.int bx), .val (.int bz), .val (.ref b7), .val (.ref b11), .val (.ref b_18), .val (.int (own_b (p0 = bx ∧ p1 = bz))), .val (.int (own_b (bx = p0 ∧ bz = p1))), .val (.int (own_b (p0 = bx ∧ p1 = bz))), .val (.int (own_b (p0 = p0 ∧ p1 = p1))), .unset, .unset, .unset, .unset]) rfl ?_
    show Steps p.tables e below (T32.setTop (mkF m 103 #[.val (.int p0), .val (.int p1), .val (.int p2), .val (.int p3), .val (.int p4), .val (.int bx), .val (.int bz), .val (.ref b7), .val (.ref b11), .val (.ref b_18), .val (.int (own_b (p0 = bx ∧ p1 = bz))), .val (.int (own_b (bx = p0 ∧ bz = p1))), .val (.int (own_b (p0 = bx ∧ p1 = bz))), .val (.int (own_b (p0 = p0 ∧ p1 = p1))), .unset, .unset, .unset, .unset] [])) _
    refine XS.aload X32.here hx rfl (hb hby at_103) rfl rfl ?_
    show Steps p.tables e below (T32.setTop (mkF m 105 #[.val (.int p0), .val (.int p1), .val (.int p2), .val (.int p3), .val (.int p4), .val (.int bx), .val (.int bz), .val (.ref b7), .val (.ref b11), .val (.ref b_18), .val (.int (own_b (p0 = bx ∧ p1 = bz))), .val (.int (own_b (bx = p0 ∧ bz = p1))), .val (.int (own_b (p0 = bx ∧ p1 = bz))), .val (.int (own_b (p0 = p0 ∧ p1 = p1))), .unset, .unset, .unset, .unset] [(.ref b7)])) _
    refine XS.aload X32.here hx rfl (hb hby at_105) rfl rfl ?_
    show Steps p.tables e below (T32.setTop (mkF m 107 #[.val (.int p0), .val (.int p1), .val (.int p2), .val (.int p3), .val (.int p4), .val (.int bx), .val (.int bz), .val (.ref b7), .val (.ref b11), .val (.ref b_18), .val (.int (own_b (p0 = bx ∧ p1 = bz))), .val (.int (own_b (bx = p0 ∧ bz = p1))), .val (.int (own_b (p0 = bx ∧ p1 = bz))), .val (.int (own_b (p0 = p0 ∧ p1 = p1))), .unset, .unset, .unset, .unset] [(.ref b11), (.ref b7)])) _
    refine st33.trans ?_
    exact k)
  have pre36 : ∀ t, Steps p.tables e below (T33.setTop (mkF m 118 #[.val (.int p0), .val (.int p1), .val (.int p2), .val (.int p3), .val (.int p4), .val (.int bx), .val (.int bz), .val (.ref b7), .val (.ref b11), .val (.ref b_18), .val (.int (own_b (p0 = bx ∧ p1 = bz))), .val (.int (own_b (bx = p0 ∧ bz = p1))), .val (.int (own_b (p0 = bx ∧ p1 = bz))), .val (.int (own_b (p0 = p0 ∧ p1 = p1))), .unset, .unset, .unset, .unset] [(.int (own_b ((if p0 = bx then (own_cmp p1 bz) else (own_cmp p0 bx)) = (0 : Int32))))])) t → Steps p.tables e below (s₁.setTop (entryFrame m #[(.int p0), (.int p1), (.int p2), (.int p3), (.int p4)] maxLocals)) t := fun t k => pre34 t (by
    by_cases hc35 : (if p0 = bx then (own_cmp p1 bz) else (own_cmp p0 bx)) = (0 : Int32)
    ·  -- yes
      show Steps p.tables e below (T33.setTop (mkF m 110 #[.val (.int p0), .val (.int p1), .val (.int p2), .val (.int p3), .val (.int p4), .val (.int bx), .val (.int bz), .val (.ref b7), .val (.ref b11), .val (.ref b_18), .val (.int (own_b (p0 = bx ∧ p1 = bz))), .val (.int (own_b (bx = p0 ∧ bz = p1))), .val (.int (own_b (p0 = bx ∧ p1 = bz))), .val (.int (own_b (p0 = p0 ∧ p1 = p1))), .unset, .unset, .unset, .unset] [(.int (if p0 = bx then (own_cmp p1 bz) else (own_cmp p0 bx)))])) _
      refine XS.ifNo X33.here hx rfl (hb hby at_110) rfl ((if0 _ _).trans (teq hc35).2) ?_
      show Steps p.tables e below (T33.setTop (mkF m 113 #[.val (.int p0), .val (.int p1), .val (.int p2), .val (.int p3), .val (.int p4), .val (.int bx), .val (.int bz), .val (.ref b7), .val (.ref b11), .val (.ref b_18), .val (.int (own_b (p0 = bx ∧ p1 = bz))), .val (.int (own_b (bx = p0 ∧ bz = p1))), .val (.int (own_b (p0 = bx ∧ p1 = bz))), .val (.int (own_b (p0 = p0 ∧ p1 = p1))), .unset, .unset, .unset, .unset] [])) _
      refine XS.iconst X33.here hx rfl (hb hby at_113) ?_
      show Steps p.tables e below (T33.setTop (mkF m 114 #[.val (.int p0), .val (.int p1), .val (.int p2), .val (.int p3), .val (.int p4), .val (.int bx), .val (.int bz), .val (.ref b7), .val (.ref b11), .val (.ref b_18), .val (.int (own_b (p0 = bx ∧ p1 = bz))), .val (.int (own_b (bx = p0 ∧ bz = p1))), .val (.int (own_b (p0 = bx ∧ p1 = bz))), .val (.int (own_b (p0 = p0 ∧ p1 = p1))), .unset, .unset, .unset, .unset] [(.int (1 : Int32))])) _
      refine XS.goto X33.here hx rfl (pc0 := 114) (pc' := 118) rfl (hb hby at_114) (by decide) (by decide) ?_
      have ek : (own_b ((if p0 = bx then (own_cmp p1 bz) else (own_cmp p0 bx)) = (0 : Int32))) = (1 : Int32) := by simp [own_b, hc35]
      rw [ek] at k
      exact k
    ·  -- no
      show Steps p.tables e below (T33.setTop (mkF m 110 #[.val (.int p0), .val (.int p1), .val (.int p2), .val (.int p3), .val (.int p4), .val (.int bx), .val (.int bz), .val (.ref b7), .val (.ref b11), .val (.ref b_18), .val (.int (own_b (p0 = bx ∧ p1 = bz))), .val (.int (own_b (bx = p0 ∧ bz = p1))), .val (.int (own_b (p0 = bx ∧ p1 = bz))), .val (.int (own_b (p0 = p0 ∧ p1 = p1))), .unset, .unset, .unset, .unset] [(.int (if p0 = bx then (own_cmp p1 bz) else (own_cmp p0 bx)))])) _
      refine XS.ifYes X33.here hx rfl (pc0 := 110) (pc' := 117) rfl (hb hby at_110) rfl ((if0 _ _).trans (feq hc35).2) (by decide) (by decide) ?_
      show Steps p.tables e below (T33.setTop (mkF m 117 #[.val (.int p0), .val (.int p1), .val (.int p2), .val (.int p3), .val (.int p4), .val (.int bx), .val (.int bz), .val (.ref b7), .val (.ref b11), .val (.ref b_18), .val (.int (own_b (p0 = bx ∧ p1 = bz))), .val (.int (own_b (bx = p0 ∧ bz = p1))), .val (.int (own_b (p0 = bx ∧ p1 = bz))), .val (.int (own_b (p0 = p0 ∧ p1 = p1))), .unset, .unset, .unset, .unset] [])) _
      refine XS.iconst X33.here hx rfl (hb hby at_117) ?_
      have ek : (own_b ((if p0 = bx then (own_cmp p1 bz) else (own_cmp p0 bx)) = (0 : Int32))) = (0 : Int32) := by simp [own_b, hc35]
      rw [ek] at k
      exact k)
  obtain ⟨cq37, kq37, q37a, q37b, q37c⟩ := isOf hZ e33 fa30
  obtain ⟨_, _, ⟨T37, L37, k37, n37⟩, -, X37, ⟨Lc37, hQ37, l37, y37, z37⟩, st37⟩ := X33.virtualBack hx (y := (⟨"com/example/tackboard/tackboard/core/Pin", "hashCode", "()I"⟩ : MethodName)) (z := (⟨"com/example/tackboard/tackboard/core/Pin", "hashCode", "()I"⟩ : MethodName)) hown (mvT hZ (ow hw 40 rfl)) (mvT hZ (ow hw 41 rfl)) (notFace_of_selects (args := #[]) (mvT hZ (ow hw 43 rfl))) (mvT hZ (ow hw 43 rfl)) (mvT hZ (ow hw 42 rfl)) (by decide) (backOf (W := 0) (rm8 l Z a0 hw [] b7 p0 p1 T17.heap n0 Z19 fa25 fa26) hZ (ow hw 44 rfl) (ow hw 2 rfl) (by decide) (by decide)) q37a q37c (g := (mkF m 122 #[.val (.int p0), .val (.int p1), .val (.int p2), .val (.int p3), .val (.int p4), .val (.int bx), .val (.int bz), .val (.ref b7), .val (.ref b11), .val (.ref b_18), .val (.int (own_b (p0 = bx ∧ p1 = bz))), .val (.int (own_b (bx = p0 ∧ bz = p1))), .val (.int (own_b (p0 = bx ∧ p1 = bz))), .val (.int (own_b (p0 = p0 ∧ p1 = p1))), .val (.int (own_b ((if p0 = bx then (own_cmp p1 bz) else (own_cmp p0 bx)) = (0 : Int32)))), .unset, .unset, .unset] [(.ref b7)])) rfl (by rw [hml]; rfl) (Steps.refl _) (argsL := []) (rest := []) (lenOf pd12 rfl) rfl (by show 2 * 0 + _ ≤ _; exact Nat.le_of_eq rfl) (hb hby at_122) (fun _ _ => ⟨rfl, e33, (by decide : 3 + 0 ≤ _), (by decide : 5 + 0 ≤ _)⟩)
  dsimp only [Pt.U, Pt.locs, Pt.cells, Pt.slots] at X37 l37 y37 z37 st37 hQ37
  subst l37 y37 z37
  obtain ⟨rfl, N37q, e37⟩ := hQ37
  have N37 := Fr.app N33 N37q
  obtain ⟨cq38, kq38, q38a, q38b, q38c⟩ := isOf hZ e37 fa24
  obtain ⟨_, _, ⟨T38, L38, k38, n38⟩, -, X38, ⟨Lc38, hQ38, l38, y38, z38⟩, st38⟩ := X37.virtualBack hx (y := (⟨"com/example/tackboard/tackboard/core/Pin", "hashCode", "()I"⟩ : MethodName)) (z := (⟨"com/example/tackboard/tackboard/core/Pin", "hashCode", "()I"⟩ : MethodName)) hown (mvT hZ (ow hw 40 rfl)) (mvT hZ (ow hw 41 rfl)) (notFace_of_selects (args := #[]) (mvT hZ (ow hw 43 rfl))) (mvT hZ (ow hw 43 rfl)) (mvT hZ (ow hw 42 rfl)) (by decide) (backOf (W := 1) (rm8 l Z a0 hw [] b11 bx bz T17.heap n0 Z19 fa27 fa28) hZ (ow hw 44 rfl) (ow hw 2 rfl) (by decide) (by decide)) q38a q38c (g := (mkF m 127 #[.val (.int p0), .val (.int p1), .val (.int p2), .val (.int p3), .val (.int p4), .val (.int bx), .val (.int bz), .val (.ref b7), .val (.ref b11), .val (.ref b_18), .val (.int (own_b (p0 = bx ∧ p1 = bz))), .val (.int (own_b (bx = p0 ∧ bz = p1))), .val (.int (own_b (p0 = bx ∧ p1 = bz))), .val (.int (own_b (p0 = p0 ∧ p1 = p1))), .val (.int (own_b ((if p0 = bx then (own_cmp p1 bz) else (own_cmp p0 bx)) = (0 : Int32)))), .unset, .unset, .unset] [(.ref b11), (.int (own_hash p0 p1))])) rfl (by rw [hml]; rfl) (Steps.refl _) (argsL := []) (rest := [(.int (own_hash p0 p1))]) (lenOf pd12 rfl) rfl (by show 2 * 0 + _ ≤ _; exact Nat.le_of_eq rfl) (hb hby at_127) (fun _ _ => ⟨rfl, e37, (by decide : 3 + 0 ≤ _), (by decide : 5 + 0 ≤ _)⟩)
  dsimp only [Pt.U, Pt.locs, Pt.cells, Pt.slots] at X38 l38 y38 z38 st38 hQ38
  subst l38 y38 z38
  obtain ⟨rfl, N38q, e38⟩ := hQ38
  have N38 := Fr.app N37 N38q
  have pre39 : ∀ t, Steps p.tables e below (T38.setTop (mkF m 130 #[.val (.int p0), .val (.int p1), .val (.int p2), .val (.int p3), .val (.int p4), .val (.int bx), .val (.int bz), .val (.ref b7), .val (.ref b11), .val (.ref b_18), .val (.int (own_b (p0 = bx ∧ p1 = bz))), .val (.int (own_b (bx = p0 ∧ bz = p1))), .val (.int (own_b (p0 = bx ∧ p1 = bz))), .val (.int (own_b (p0 = p0 ∧ p1 = p1))), .val (.int (own_b ((if p0 = bx then (own_cmp p1 bz) else (own_cmp p0 bx)) = (0 : Int32)))), .unset, .unset, .unset] [(.int (own_hash bx bz)), (.int (own_hash p0 p1))])) t → Steps p.tables e below (s₁.setTop (entryFrame m #[(.int p0), (.int p1), (.int p2), (.int p3), (.int p4)] maxLocals)) t := fun t k => pre36 t (by
    show Steps p.tables e below (T33.setTop (mkF m 118 #[.val (.int p0), .val (.int p1), .val (.int p2), .val (.int p3), .val (.int p4), .val (.int bx), .val (.int bz), .val (.ref b7), .val (.ref b11), .val (.ref b_18), .val (.int (own_b (p0 = bx ∧ p1 = bz))), .val (.int (own_b (bx = p0 ∧ bz = p1))), .val (.int (own_b (p0 = bx ∧ p1 = bz))), .val (.int (own_b (p0 = p0 ∧ p1 = p1))), .unset, .unset, .unset, .unset] [(.int (own_b ((if p0 = bx then (own_cmp p1 bz) else (own_cmp p0 bx)) = (0 : Int32))))])) _
    refine XS.istore X33.here hx rfl (hb hby at_118) rfl (l' := #[.val (.int p0), .val (.int p1), .val (.int p2), .val (.int p3), .val (.int p4), .val (.int bx), .val (.int bz), .val (.ref b7), .val (.ref b11), .val (.ref b_18), .val (.int (own_b (p0 = bx ∧ p1 = bz))), .val (.int (own_b (bx = p0 ∧ bz = p1))), .val (.int (own_b (p0 = bx ∧ p1 = bz))), .val (.int (own_b (p0 = p0 ∧ p1 = p1))), .val (.int (own_b ((if p0 = bx then (own_cmp p1 bz) else (own_cmp p0 bx)) = (0 : Int32)))), .unset, .unset, .unset]) rfl ?_
    show Steps p.tables e below (T33.setTop (mkF m 120 #[.val (.int p0), .val (.int p1), .val (.int p2), .val (.int p3), .val (.int p4), .val (.int bx), .val (.int bz), .val (.ref b7), .val (.ref b11), .val (.ref b_18), .val (.int (own_b (p0 = bx ∧ p1 = bz))), .val (.int (own_b (bx = p0 ∧ bz = p1))), .val (.int (own_b (p0 = bx ∧ p1 = bz))), .val (.int (own_b (p0 = p0 ∧ p1 = p1))), .val (.int (own_b ((if p0 = bx then (own_cmp p1 bz) else (own_cmp p0 bx)) = (0 : Int32)))), .unset, .unset, .unset] [])) _
    refine XS.aload X33.here hx rfl (hb hby at_120) rfl rfl ?_
    show Steps p.tables e below (T33.setTop (mkF m 122 #[.val (.int p0), .val (.int p1), .val (.int p2), .val (.int p3), .val (.int p4), .val (.int bx), .val (.int bz), .val (.ref b7), .val (.ref b11), .val (.ref b_18), .val (.int (own_b (p0 = bx ∧ p1 = bz))), .val (.int (own_b (bx = p0 ∧ bz = p1))), .val (.int (own_b (p0 = bx ∧ p1 = bz))), .val (.int (own_b (p0 = p0 ∧ p1 = p1))), .val (.int (own_b ((if p0 = bx then (own_cmp p1 bz) else (own_cmp p0 bx)) = (0 : Int32)))), .unset, .unset, .unset] [(.ref b7)])) _
    refine st37.trans ?_
    show Steps p.tables e below (T37.setTop (mkF m 125 #[.val (.int p0), .val (.int p1), .val (.int p2), .val (.int p3), .val (.int p4), .val (.int bx), .val (.int bz), .val (.ref b7), .val (.ref b11), .val (.ref b_18), .val (.int (own_b (p0 = bx ∧ p1 = bz))), .val (.int (own_b (bx = p0 ∧ bz = p1))), .val (.int (own_b (p0 = bx ∧ p1 = bz))), .val (.int (own_b (p0 = p0 ∧ p1 = p1))), .val (.int (own_b ((if p0 = bx then (own_cmp p1 bz) else (own_cmp p0 bx)) = (0 : Int32)))), .unset, .unset, .unset] [(.int (own_hash p0 p1))])) _
    refine XS.aload X37.here hx rfl (hb hby at_125) rfl rfl ?_
    show Steps p.tables e below (T37.setTop (mkF m 127 #[.val (.int p0), .val (.int p1), .val (.int p2), .val (.int p3), .val (.int p4), .val (.int bx), .val (.int bz), .val (.ref b7), .val (.ref b11), .val (.ref b_18), .val (.int (own_b (p0 = bx ∧ p1 = bz))), .val (.int (own_b (bx = p0 ∧ bz = p1))), .val (.int (own_b (p0 = bx ∧ p1 = bz))), .val (.int (own_b (p0 = p0 ∧ p1 = p1))), .val (.int (own_b ((if p0 = bx then (own_cmp p1 bz) else (own_cmp p0 bx)) = (0 : Int32)))), .unset, .unset, .unset] [(.ref b11), (.int (own_hash p0 p1))])) _
    refine st38.trans ?_
    exact k)
  have pre41 : ∀ t, Steps p.tables e below (T38.setTop (mkF m 138 #[.val (.int p0), .val (.int p1), .val (.int p2), .val (.int p3), .val (.int p4), .val (.int bx), .val (.int bz), .val (.ref b7), .val (.ref b11), .val (.ref b_18), .val (.int (own_b (p0 = bx ∧ p1 = bz))), .val (.int (own_b (bx = p0 ∧ bz = p1))), .val (.int (own_b (p0 = bx ∧ p1 = bz))), .val (.int (own_b (p0 = p0 ∧ p1 = p1))), .val (.int (own_b ((if p0 = bx then (own_cmp p1 bz) else (own_cmp p0 bx)) = (0 : Int32)))), .unset, .unset, .unset] [(.int (own_b ((own_hash p0 p1) = (own_hash bx bz))))])) t → Steps p.tables e below (s₁.setTop (entryFrame m #[(.int p0), (.int p1), (.int p2), (.int p3), (.int p4)] maxLocals)) t := fun t k => pre39 t (by
    by_cases hc40 : (own_hash p0 p1) = (own_hash bx bz)
    ·  -- yes
      show Steps p.tables e below (T38.setTop (mkF m 130 #[.val (.int p0), .val (.int p1), .val (.int p2), .val (.int p3), .val (.int p4), .val (.int bx), .val (.int bz), .val (.ref b7), .val (.ref b11), .val (.ref b_18), .val (.int (own_b (p0 = bx ∧ p1 = bz))), .val (.int (own_b (bx = p0 ∧ bz = p1))), .val (.int (own_b (p0 = bx ∧ p1 = bz))), .val (.int (own_b (p0 = p0 ∧ p1 = p1))), .val (.int (own_b ((if p0 = bx then (own_cmp p1 bz) else (own_cmp p0 bx)) = (0 : Int32)))), .unset, .unset, .unset] [(.int (own_hash bx bz)), (.int (own_hash p0 p1))])) _
      refine XS.icmpNo X38.here hx rfl (hb hby at_130) rfl (teq hc40).2 ?_
      show Steps p.tables e below (T38.setTop (mkF m 133 #[.val (.int p0), .val (.int p1), .val (.int p2), .val (.int p3), .val (.int p4), .val (.int bx), .val (.int bz), .val (.ref b7), .val (.ref b11), .val (.ref b_18), .val (.int (own_b (p0 = bx ∧ p1 = bz))), .val (.int (own_b (bx = p0 ∧ bz = p1))), .val (.int (own_b (p0 = bx ∧ p1 = bz))), .val (.int (own_b (p0 = p0 ∧ p1 = p1))), .val (.int (own_b ((if p0 = bx then (own_cmp p1 bz) else (own_cmp p0 bx)) = (0 : Int32)))), .unset, .unset, .unset] [])) _
      refine XS.iconst X38.here hx rfl (hb hby at_133) ?_
      show Steps p.tables e below (T38.setTop (mkF m 134 #[.val (.int p0), .val (.int p1), .val (.int p2), .val (.int p3), .val (.int p4), .val (.int bx), .val (.int bz), .val (.ref b7), .val (.ref b11), .val (.ref b_18), .val (.int (own_b (p0 = bx ∧ p1 = bz))), .val (.int (own_b (bx = p0 ∧ bz = p1))), .val (.int (own_b (p0 = bx ∧ p1 = bz))), .val (.int (own_b (p0 = p0 ∧ p1 = p1))), .val (.int (own_b ((if p0 = bx then (own_cmp p1 bz) else (own_cmp p0 bx)) = (0 : Int32)))), .unset, .unset, .unset] [(.int (1 : Int32))])) _
      refine XS.goto X38.here hx rfl (pc0 := 134) (pc' := 138) rfl (hb hby at_134) (by decide) (by decide) ?_
      have ek : (own_b ((own_hash p0 p1) = (own_hash bx bz))) = (1 : Int32) := by simp [own_b, hc40]
      rw [ek] at k
      exact k
    ·  -- no
      show Steps p.tables e below (T38.setTop (mkF m 130 #[.val (.int p0), .val (.int p1), .val (.int p2), .val (.int p3), .val (.int p4), .val (.int bx), .val (.int bz), .val (.ref b7), .val (.ref b11), .val (.ref b_18), .val (.int (own_b (p0 = bx ∧ p1 = bz))), .val (.int (own_b (bx = p0 ∧ bz = p1))), .val (.int (own_b (p0 = bx ∧ p1 = bz))), .val (.int (own_b (p0 = p0 ∧ p1 = p1))), .val (.int (own_b ((if p0 = bx then (own_cmp p1 bz) else (own_cmp p0 bx)) = (0 : Int32)))), .unset, .unset, .unset] [(.int (own_hash bx bz)), (.int (own_hash p0 p1))])) _
      refine XS.icmpYes X38.here hx rfl (pc0 := 130) (pc' := 137) rfl (hb hby at_130) rfl (feq hc40).2 (by decide) (by decide) ?_
      show Steps p.tables e below (T38.setTop (mkF m 137 #[.val (.int p0), .val (.int p1), .val (.int p2), .val (.int p3), .val (.int p4), .val (.int bx), .val (.int bz), .val (.ref b7), .val (.ref b11), .val (.ref b_18), .val (.int (own_b (p0 = bx ∧ p1 = bz))), .val (.int (own_b (bx = p0 ∧ bz = p1))), .val (.int (own_b (p0 = bx ∧ p1 = bz))), .val (.int (own_b (p0 = p0 ∧ p1 = p1))), .val (.int (own_b ((if p0 = bx then (own_cmp p1 bz) else (own_cmp p0 bx)) = (0 : Int32)))), .unset, .unset, .unset] [])) _
      refine XS.iconst X38.here hx rfl (hb hby at_137) ?_
      have ek : (own_b ((own_hash p0 p1) = (own_hash bx bz))) = (0 : Int32) := by simp [own_b, hc40]
      rw [ek] at k
      exact k)
  obtain ⟨cq42, kq42, q42a, q42b, q42c⟩ := isOf hZ e38 fa30
  obtain ⟨_, _, ⟨T42, L42, k42, n42⟩, -, X42, ⟨Lc42, hQ42, l42, y42, z42⟩, st42⟩ := X38.virtualBack hx (y := (⟨"com/example/tackboard/tackboard/core/Pin", "equals", "(Ljava/lang/Object;)Z"⟩ : MethodName)) (z := (⟨"com/example/tackboard/tackboard/core/Pin", "equals", "(Ljava/lang/Object;)Z"⟩ : MethodName)) hown (mvT hZ (ow hw 25 rfl)) (mvT hZ (ow hw 26 rfl)) (notFace_of_selects (args := #[]) (mvT hZ (ow hw 28 rfl))) (mvT hZ (ow hw 28 rfl)) (mvT hZ (ow hw 27 rfl)) (by decide) (backOf (W := 0) (rm5i l Z a0 hw [] b7 b_18 T17.heap n0 Z19 f17_0) hZ (ow hw 29 rfl) (ow hw 2 rfl) (by decide) (by decide)) q42a q42c (g := (mkF m 144 #[.val (.int p0), .val (.int p1), .val (.int p2), .val (.int p3), .val (.int p4), .val (.int bx), .val (.int bz), .val (.ref b7), .val (.ref b11), .val (.ref b_18), .val (.int (own_b (p0 = bx ∧ p1 = bz))), .val (.int (own_b (bx = p0 ∧ bz = p1))), .val (.int (own_b (p0 = bx ∧ p1 = bz))), .val (.int (own_b (p0 = p0 ∧ p1 = p1))), .val (.int (own_b ((if p0 = bx then (own_cmp p1 bz) else (own_cmp p0 bx)) = (0 : Int32)))), .val (.int (own_b ((own_hash p0 p1) = (own_hash bx bz)))), .unset, .unset] [(.ref b_18), (.ref b7)])) rfl (by rw [hml]; rfl) (Steps.refl _) (argsL := [(.ref b_18)]) (rest := []) (lenOf pd10 rfl) rfl (by show 2 * 0 + _ ≤ _; exact Nat.le_of_eq rfl) (hb hby at_144) (fun _ _ => ⟨rfl, e38, (by decide : 3 + 0 ≤ _), (by decide : 5 + 0 ≤ _)⟩)
  dsimp only [Pt.U, Pt.locs, Pt.cells, Pt.slots] at X42 l42 y42 z42 st42 hQ42
  subst l42 y42 z42
  obtain ⟨rfl, N42q, e42⟩ := hQ42
  have N42 := Fr.app N38 N42q
  obtain ⟨cq43, kq43, q43a, q43b, q43c⟩ := isOf hZ e42 fa30
  obtain ⟨_, _, ⟨T43, L43, k43, n43⟩, -, X43, ⟨Lc43, hQ43, l43, y43, z43⟩, st43⟩ := X42.virtualBack hx (y := (⟨"com/example/tackboard/tackboard/core/Pin", "equals", "(Ljava/lang/Object;)Z"⟩ : MethodName)) (z := (⟨"com/example/tackboard/tackboard/core/Pin", "equals", "(Ljava/lang/Object;)Z"⟩ : MethodName)) hown (mvT hZ (ow hw 25 rfl)) (mvT hZ (ow hw 26 rfl)) (notFace_of_selects (args := #[]) (mvT hZ (ow hw 28 rfl))) (mvT hZ (ow hw 28 rfl)) (mvT hZ (ow hw 27 rfl)) (by decide) (backOf (W := 0) (rm5n l Z a0 hw [] b7 T17.heap n0 Z19 ) hZ (ow hw 29 rfl) (ow hw 2 rfl) (by decide) (by decide)) q43a q43c (g := (mkF m 152 #[.val (.int p0), .val (.int p1), .val (.int p2), .val (.int p3), .val (.int p4), .val (.int bx), .val (.int bz), .val (.ref b7), .val (.ref b11), .val (.ref b_18), .val (.int (own_b (p0 = bx ∧ p1 = bz))), .val (.int (own_b (bx = p0 ∧ bz = p1))), .val (.int (own_b (p0 = bx ∧ p1 = bz))), .val (.int (own_b (p0 = p0 ∧ p1 = p1))), .val (.int (own_b ((if p0 = bx then (own_cmp p1 bz) else (own_cmp p0 bx)) = (0 : Int32)))), .val (.int (own_b ((own_hash p0 p1) = (own_hash bx bz)))), .val (.int (0 : Int32)), .unset] [.null, (.ref b7)])) rfl (by rw [hml]; rfl) (Steps.refl _) (argsL := [.null]) (rest := []) (lenOf pd10 rfl) rfl (by show 2 * 0 + _ ≤ _; exact Nat.le_of_eq rfl) (hb hby at_152) (fun _ _ => ⟨rfl, e42, (by decide : 3 + 0 ≤ _), (by decide : 5 + 0 ≤ _)⟩)
  dsimp only [Pt.U, Pt.locs, Pt.cells, Pt.slots] at X43 l43 y43 z43 st43 hQ43
  subst l43 y43 z43
  obtain ⟨rfl, N43q, e43⟩ := hQ43
  have N43 := Fr.app N42 N43q
  have pre44 : ∀ t, Steps p.tables e below (T43.setTop (mkF m 193 #[.val (.int p0), .val (.int p1), .val (.int p2), .val (.int p3), .val (.int p4), .val (.int bx), .val (.int bz), .val (.ref b7), .val (.ref b11), .val (.ref b_18), .val (.int (own_b (p0 = bx ∧ p1 = bz))), .val (.int (own_b (bx = p0 ∧ bz = p1))), .val (.int (own_b (p0 = bx ∧ p1 = bz))), .val (.int (own_b (p0 = p0 ∧ p1 = p1))), .val (.int (own_b ((if p0 = bx then (own_cmp p1 bz) else (own_cmp p0 bx)) = (0 : Int32)))), .val (.int (own_b ((own_hash p0 p1) = (own_hash bx bz)))), .val (.int (0 : Int32)), .val (.int (0 : Int32))] [(.int (own_b (bx = p0 ∧ bz = p1)))])) t → Steps p.tables e below (s₁.setTop (entryFrame m #[(.int p0), (.int p1), (.int p2), (.int p3), (.int p4)] maxLocals)) t := fun t k => pre41 t (by
    show Steps p.tables e below (T38.setTop (mkF m 138 #[.val (.int p0), .val (.int p1), .val (.int p2), .val (.int p3), .val (.int p4), .val (.int bx), .val (.int bz), .val (.ref b7), .val (.ref b11), .val (.ref b_18), .val (.int (own_b (p0 = bx ∧ p1 = bz))), .val (.int (own_b (bx = p0 ∧ bz = p1))), .val (.int (own_b (p0 = bx ∧ p1 = bz))), .val (.int (own_b (p0 = p0 ∧ p1 = p1))), .val (.int (own_b ((if p0 = bx then (own_cmp p1 bz) else (own_cmp p0 bx)) = (0 : Int32)))), .unset, .unset, .unset] [(.int (own_b ((own_hash p0 p1) = (own_hash bx bz))))])) _
    refine XS.istore X38.here hx rfl (hb hby at_138) rfl (l' := #[.val (.int p0), .val (.int p1), .val (.int p2), .val (.int p3), .val (.int p4), .val (.int bx), .val (.int bz), .val (.ref b7), .val (.ref b11), .val (.ref b_18), .val (.int (own_b (p0 = bx ∧ p1 = bz))), .val (.int (own_b (bx = p0 ∧ bz = p1))), .val (.int (own_b (p0 = bx ∧ p1 = bz))), .val (.int (own_b (p0 = p0 ∧ p1 = p1))), .val (.int (own_b ((if p0 = bx then (own_cmp p1 bz) else (own_cmp p0 bx)) = (0 : Int32)))), .val (.int (own_b ((own_hash p0 p1) = (own_hash bx bz)))), .unset, .unset]) rfl ?_
    show Steps p.tables e below (T38.setTop (mkF m 140 #[.val (.int p0), .val (.int p1), .val (.int p2), .val (.int p3), .val (.int p4), .val (.int bx), .val (.int bz), .val (.ref b7), .val (.ref b11), .val (.ref b_18), .val (.int (own_b (p0 = bx ∧ p1 = bz))), .val (.int (own_b (bx = p0 ∧ bz = p1))), .val (.int (own_b (p0 = bx ∧ p1 = bz))), .val (.int (own_b (p0 = p0 ∧ p1 = p1))), .val (.int (own_b ((if p0 = bx then (own_cmp p1 bz) else (own_cmp p0 bx)) = (0 : Int32)))), .val (.int (own_b ((own_hash p0 p1) = (own_hash bx bz)))), .unset, .unset] [])) _
    refine XS.aload X38.here hx rfl (hb hby at_140) rfl rfl ?_
    show Steps p.tables e below (T38.setTop (mkF m 142 #[.val (.int p0), .val (.int p1), .val (.int p2), .val (.int p3), .val (.int p4), .val (.int bx), .val (.int bz), .val (.ref b7), .val (.ref b11), .val (.ref b_18), .val (.int (own_b (p0 = bx ∧ p1 = bz))), .val (.int (own_b (bx = p0 ∧ bz = p1))), .val (.int (own_b (p0 = bx ∧ p1 = bz))), .val (.int (own_b (p0 = p0 ∧ p1 = p1))), .val (.int (own_b ((if p0 = bx then (own_cmp p1 bz) else (own_cmp p0 bx)) = (0 : Int32)))), .val (.int (own_b ((own_hash p0 p1) = (own_hash bx bz)))), .unset, .unset] [(.ref b7)])) _
    refine XS.aload X38.here hx rfl (hb hby at_142) rfl rfl ?_
    show Steps p.tables e below (T38.setTop (mkF m 144 #[.val (.int p0), .val (.int p1), .val (.int p2), .val (.int p3), .val (.int p4), .val (.int bx), .val (.int bz), .val (.ref b7), .val (.ref b11), .val (.ref b_18), .val (.int (own_b (p0 = bx ∧ p1 = bz))), .val (.int (own_b (bx = p0 ∧ bz = p1))), .val (.int (own_b (p0 = bx ∧ p1 = bz))), .val (.int (own_b (p0 = p0 ∧ p1 = p1))), .val (.int (own_b ((if p0 = bx then (own_cmp p1 bz) else (own_cmp p0 bx)) = (0 : Int32)))), .val (.int (own_b ((own_hash p0 p1) = (own_hash bx bz)))), .unset, .unset] [(.ref b_18), (.ref b7)])) _
    refine st42.trans ?_
    show Steps p.tables e below (T42.setTop (mkF m 147 #[.val (.int p0), .val (.int p1), .val (.int p2), .val (.int p3), .val (.int p4), .val (.int bx), .val (.int bz), .val (.ref b7), .val (.ref b11), .val (.ref b_18), .val (.int (own_b (p0 = bx ∧ p1 = bz))), .val (.int (own_b (bx = p0 ∧ bz = p1))), .val (.int (own_b (p0 = bx ∧ p1 = bz))), .val (.int (own_b (p0 = p0 ∧ p1 = p1))), .val (.int (own_b ((if p0 = bx then (own_cmp p1 bz) else (own_cmp p0 bx)) = (0 : Int32)))), .val (.int (own_b ((own_hash p0 p1) = (own_hash bx bz)))), .unset, .unset] [(.int (0 : Int32))])) _
    refine XS.istore X42.here hx rfl (hb hby at_147) rfl (l' := #[.val (.int p0), .val (.int p1), .val (.int p2), .val (.int p3), .val (.int p4), .val (.int bx), .val (.int bz), .val (.ref b7), .val (.ref b11), .val (.ref b_18), .val (.int (own_b (p0 = bx ∧ p1 = bz))), .val (.int (own_b (bx = p0 ∧ bz = p1))), .val (.int (own_b (p0 = bx ∧ p1 = bz))), .val (.int (own_b (p0 = p0 ∧ p1 = p1))), .val (.int (own_b ((if p0 = bx then (own_cmp p1 bz) else (own_cmp p0 bx)) = (0 : Int32)))), .val (.int (own_b ((own_hash p0 p1) = (own_hash bx bz)))), .val (.int (0 : Int32)), .unset]) rfl ?_
    show Steps p.tables e below (T42.setTop (mkF m 149 #[.val (.int p0), .val (.int p1), .val (.int p2), .val (.int p3), .val (.int p4), .val (.int bx), .val (.int bz), .val (.ref b7), .val (.ref b11), .val (.ref b_18), .val (.int (own_b (p0 = bx ∧ p1 = bz))), .val (.int (own_b (bx = p0 ∧ bz = p1))), .val (.int (own_b (p0 = bx ∧ p1 = bz))), .val (.int (own_b (p0 = p0 ∧ p1 = p1))), .val (.int (own_b ((if p0 = bx then (own_cmp p1 bz) else (own_cmp p0 bx)) = (0 : Int32)))), .val (.int (own_b ((own_hash p0 p1) = (own_hash bx bz)))), .val (.int (0 : Int32)), .unset] [])) _
    refine XS.aload X42.here hx rfl (hb hby at_149) rfl rfl ?_
    show Steps p.tables e below (T42.setTop (mkF m 151 #[.val (.int p0), .val (.int p1), .val (.int p2), .val (.int p3), .val (.int p4), .val (.int bx), .val (.int bz), .val (.ref b7), .val (.ref b11), .val (.ref b_18), .val (.int (own_b (p0 = bx ∧ p1 = bz))), .val (.int (own_b (bx = p0 ∧ bz = p1))), .val (.int (own_b (p0 = bx ∧ p1 = bz))), .val (.int (own_b (p0 = p0 ∧ p1 = p1))), .val (.int (own_b ((if p0 = bx then (own_cmp p1 bz) else (own_cmp p0 bx)) = (0 : Int32)))), .val (.int (own_b ((own_hash p0 p1) = (own_hash bx bz)))), .val (.int (0 : Int32)), .unset] [(.ref b7)])) _
    refine XS.aconstNull X42.here hx rfl (hb hby at_151) ?_
    show Steps p.tables e below (T42.setTop (mkF m 152 #[.val (.int p0), .val (.int p1), .val (.int p2), .val (.int p3), .val (.int p4), .val (.int bx), .val (.int bz), .val (.ref b7), .val (.ref b11), .val (.ref b_18), .val (.int (own_b (p0 = bx ∧ p1 = bz))), .val (.int (own_b (bx = p0 ∧ bz = p1))), .val (.int (own_b (p0 = bx ∧ p1 = bz))), .val (.int (own_b (p0 = p0 ∧ p1 = p1))), .val (.int (own_b ((if p0 = bx then (own_cmp p1 bz) else (own_cmp p0 bx)) = (0 : Int32)))), .val (.int (own_b ((own_hash p0 p1) = (own_hash bx bz)))), .val (.int (0 : Int32)), .unset] [.null, (.ref b7)])) _
    refine st43.trans ?_
    show Steps p.tables e below (T43.setTop (mkF m 155 #[.val (.int p0), .val (.int p1), .val (.int p2), .val (.int p3), .val (.int p4), .val (.int bx), .val (.int bz), .val (.ref b7), .val (.ref b11), .val (.ref b_18), .val (.int (own_b (p0 = bx ∧ p1 = bz))), .val (.int (own_b (bx = p0 ∧ bz = p1))), .val (.int (own_b (p0 = bx ∧ p1 = bz))), .val (.int (own_b (p0 = p0 ∧ p1 = p1))), .val (.int (own_b ((if p0 = bx then (own_cmp p1 bz) else (own_cmp p0 bx)) = (0 : Int32)))), .val (.int (own_b ((own_hash p0 p1) = (own_hash bx bz)))), .val (.int (0 : Int32)), .unset] [(.int (0 : Int32))])) _
    refine XS.istore X43.here hx rfl (hb hby at_155) rfl (l' := #[.val (.int p0), .val (.int p1), .val (.int p2), .val (.int p3), .val (.int p4), .val (.int bx), .val (.int bz), .val (.ref b7), .val (.ref b11), .val (.ref b_18), .val (.int (own_b (p0 = bx ∧ p1 = bz))), .val (.int (own_b (bx = p0 ∧ bz = p1))), .val (.int (own_b (p0 = bx ∧ p1 = bz))), .val (.int (own_b (p0 = p0 ∧ p1 = p1))), .val (.int (own_b ((if p0 = bx then (own_cmp p1 bz) else (own_cmp p0 bx)) = (0 : Int32)))), .val (.int (own_b ((own_hash p0 p1) = (own_hash bx bz)))), .val (.int (0 : Int32)), .val (.int (0 : Int32))]) rfl ?_
    show Steps p.tables e below (T43.setTop (mkF m 157 #[.val (.int p0), .val (.int p1), .val (.int p2), .val (.int p3), .val (.int p4), .val (.int bx), .val (.int bz), .val (.ref b7), .val (.ref b11), .val (.ref b_18), .val (.int (own_b (p0 = bx ∧ p1 = bz))), .val (.int (own_b (bx = p0 ∧ bz = p1))), .val (.int (own_b (p0 = bx ∧ p1 = bz))), .val (.int (own_b (p0 = p0 ∧ p1 = p1))), .val (.int (own_b ((if p0 = bx then (own_cmp p1 bz) else (own_cmp p0 bx)) = (0 : Int32)))), .val (.int (own_b ((own_hash p0 p1) = (own_hash bx bz)))), .val (.int (0 : Int32)), .val (.int (0 : Int32))] [])) _
    refine XS.iload X43.here hx rfl (hb hby at_157) rfl  ?_
    show Steps p.tables e below (T43.setTop (mkF m 159 #[.val (.int p0), .val (.int p1), .val (.int p2), .val (.int p3), .val (.int p4), .val (.int bx), .val (.int bz), .val (.ref b7), .val (.ref b11), .val (.ref b_18), .val (.int (own_b (p0 = bx ∧ p1 = bz))), .val (.int (own_b (bx = p0 ∧ bz = p1))), .val (.int (own_b (p0 = bx ∧ p1 = bz))), .val (.int (own_b (p0 = p0 ∧ p1 = p1))), .val (.int (own_b ((if p0 = bx then (own_cmp p1 bz) else (own_cmp p0 bx)) = (0 : Int32)))), .val (.int (own_b ((own_hash p0 p1) = (own_hash bx bz)))), .val (.int (0 : Int32)), .val (.int (0 : Int32))] [(.int (own_b (bx = p0 ∧ bz = p1)))])) _
    refine XS.iload X43.here hx rfl (hb hby at_159) rfl  ?_
    show Steps p.tables e below (T43.setTop (mkF m 161 #[.val (.int p0), .val (.int p1), .val (.int p2), .val (.int p3), .val (.int p4), .val (.int bx), .val (.int bz), .val (.ref b7), .val (.ref b11), .val (.ref b_18), .val (.int (own_b (p0 = bx ∧ p1 = bz))), .val (.int (own_b (bx = p0 ∧ bz = p1))), .val (.int (own_b (p0 = bx ∧ p1 = bz))), .val (.int (own_b (p0 = p0 ∧ p1 = p1))), .val (.int (own_b ((if p0 = bx then (own_cmp p1 bz) else (own_cmp p0 bx)) = (0 : Int32)))), .val (.int (own_b ((own_hash p0 p1) = (own_hash bx bz)))), .val (.int (0 : Int32)), .val (.int (0 : Int32))] [(.int (own_b (p0 = bx ∧ p1 = bz))), (.int (own_b (bx = p0 ∧ bz = p1)))])) _
    refine XS.icmpYes X43.here hx rfl (pc0 := 161) (pc' := 166) rfl (hb hby at_161) rfl (teq (own_bc (own_sw _ _ _ _))).1 (by decide) (by decide) ?_
    show Steps p.tables e below (T43.setTop (mkF m 166 #[.val (.int p0), .val (.int p1), .val (.int p2), .val (.int p3), .val (.int p4), .val (.int bx), .val (.int bz), .val (.ref b7), .val (.ref b11), .val (.ref b_18), .val (.int (own_b (p0 = bx ∧ p1 = bz))), .val (.int (own_b (bx = p0 ∧ bz = p1))), .val (.int (own_b (p0 = bx ∧ p1 = bz))), .val (.int (own_b (p0 = p0 ∧ p1 = p1))), .val (.int (own_b ((if p0 = bx then (own_cmp p1 bz) else (own_cmp p0 bx)) = (0 : Int32)))), .val (.int (own_b ((own_hash p0 p1) = (own_hash bx bz)))), .val (.int (0 : Int32)), .val (.int (0 : Int32))] [])) _
    refine XS.iload X43.here hx rfl (hb hby at_166) rfl  ?_
    show Steps p.tables e below (T43.setTop (mkF m 168 #[.val (.int p0), .val (.int p1), .val (.int p2), .val (.int p3), .val (.int p4), .val (.int bx), .val (.int bz), .val (.ref b7), .val (.ref b11), .val (.ref b_18), .val (.int (own_b (p0 = bx ∧ p1 = bz))), .val (.int (own_b (bx = p0 ∧ bz = p1))), .val (.int (own_b (p0 = bx ∧ p1 = bz))), .val (.int (own_b (p0 = p0 ∧ p1 = p1))), .val (.int (own_b ((if p0 = bx then (own_cmp p1 bz) else (own_cmp p0 bx)) = (0 : Int32)))), .val (.int (own_b ((own_hash p0 p1) = (own_hash bx bz)))), .val (.int (0 : Int32)), .val (.int (0 : Int32))] [(.int (own_b (p0 = bx ∧ p1 = bz)))])) _
    refine XS.iload X43.here hx rfl (hb hby at_168) rfl  ?_
    show Steps p.tables e below (T43.setTop (mkF m 170 #[.val (.int p0), .val (.int p1), .val (.int p2), .val (.int p3), .val (.int p4), .val (.int bx), .val (.int bz), .val (.ref b7), .val (.ref b11), .val (.ref b_18), .val (.int (own_b (p0 = bx ∧ p1 = bz))), .val (.int (own_b (bx = p0 ∧ bz = p1))), .val (.int (own_b (p0 = bx ∧ p1 = bz))), .val (.int (own_b (p0 = p0 ∧ p1 = p1))), .val (.int (own_b ((if p0 = bx then (own_cmp p1 bz) else (own_cmp p0 bx)) = (0 : Int32)))), .val (.int (own_b ((own_hash p0 p1) = (own_hash bx bz)))), .val (.int (0 : Int32)), .val (.int (0 : Int32))] [(.int (own_b (bx = p0 ∧ bz = p1))), (.int (own_b (p0 = bx ∧ p1 = bz)))])) _
    refine XS.icmpYes X43.here hx rfl (pc0 := 170) (pc' := 175) rfl (hb hby at_170) rfl (teq (own_bc (own_sw _ _ _ _))).1 (by decide) (by decide) ?_
    show Steps p.tables e below (T43.setTop (mkF m 175 #[.val (.int p0), .val (.int p1), .val (.int p2), .val (.int p3), .val (.int p4), .val (.int bx), .val (.int bz), .val (.ref b7), .val (.ref b11), .val (.ref b_18), .val (.int (own_b (p0 = bx ∧ p1 = bz))), .val (.int (own_b (bx = p0 ∧ bz = p1))), .val (.int (own_b (p0 = bx ∧ p1 = bz))), .val (.int (own_b (p0 = p0 ∧ p1 = p1))), .val (.int (own_b ((if p0 = bx then (own_cmp p1 bz) else (own_cmp p0 bx)) = (0 : Int32)))), .val (.int (own_b ((own_hash p0 p1) = (own_hash bx bz)))), .val (.int (0 : Int32)), .val (.int (0 : Int32))] [])) _
    refine XS.iload X43.here hx rfl (hb hby at_175) rfl  ?_
    show Steps p.tables e below (T43.setTop (mkF m 177 #[.val (.int p0), .val (.int p1), .val (.int p2), .val (.int p3), .val (.int p4), .val (.int bx), .val (.int bz), .val (.ref b7), .val (.ref b11), .val (.ref b_18), .val (.int (own_b (p0 = bx ∧ p1 = bz))), .val (.int (own_b (bx = p0 ∧ bz = p1))), .val (.int (own_b (p0 = bx ∧ p1 = bz))), .val (.int (own_b (p0 = p0 ∧ p1 = p1))), .val (.int (own_b ((if p0 = bx then (own_cmp p1 bz) else (own_cmp p0 bx)) = (0 : Int32)))), .val (.int (own_b ((own_hash p0 p1) = (own_hash bx bz)))), .val (.int (0 : Int32)), .val (.int (0 : Int32))] [(.int (own_b (p0 = p0 ∧ p1 = p1)))])) _
    refine XS.ifYes X43.here hx rfl (pc0 := 177) (pc' := 182) rfl (hb hby at_177) rfl ((if0 _ _).trans (feq (own_b_nz ⟨rfl, rfl⟩)).2) (by decide) (by decide) ?_
    show Steps p.tables e below (T43.setTop (mkF m 182 #[.val (.int p0), .val (.int p1), .val (.int p2), .val (.int p3), .val (.int p4), .val (.int bx), .val (.int bz), .val (.ref b7), .val (.ref b11), .val (.ref b_18), .val (.int (own_b (p0 = bx ∧ p1 = bz))), .val (.int (own_b (bx = p0 ∧ bz = p1))), .val (.int (own_b (p0 = bx ∧ p1 = bz))), .val (.int (own_b (p0 = p0 ∧ p1 = p1))), .val (.int (own_b ((if p0 = bx then (own_cmp p1 bz) else (own_cmp p0 bx)) = (0 : Int32)))), .val (.int (own_b ((own_hash p0 p1) = (own_hash bx bz)))), .val (.int (0 : Int32)), .val (.int (0 : Int32))] [])) _
    refine XS.iload X43.here hx rfl (hb hby at_182) rfl  ?_
    show Steps p.tables e below (T43.setTop (mkF m 184 #[.val (.int p0), .val (.int p1), .val (.int p2), .val (.int p3), .val (.int p4), .val (.int bx), .val (.int bz), .val (.ref b7), .val (.ref b11), .val (.ref b_18), .val (.int (own_b (p0 = bx ∧ p1 = bz))), .val (.int (own_b (bx = p0 ∧ bz = p1))), .val (.int (own_b (p0 = bx ∧ p1 = bz))), .val (.int (own_b (p0 = p0 ∧ p1 = p1))), .val (.int (own_b ((if p0 = bx then (own_cmp p1 bz) else (own_cmp p0 bx)) = (0 : Int32)))), .val (.int (own_b ((own_hash p0 p1) = (own_hash bx bz)))), .val (.int (0 : Int32)), .val (.int (0 : Int32))] [(.int (own_b ((if p0 = bx then (own_cmp p1 bz) else (own_cmp p0 bx)) = (0 : Int32))))])) _
    refine XS.iload X43.here hx rfl (hb hby at_184) rfl  ?_
    show Steps p.tables e below (T43.setTop (mkF m 186 #[.val (.int p0), .val (.int p1), .val (.int p2), .val (.int p3), .val (.int p4), .val (.int bx), .val (.int bz), .val (.ref b7), .val (.ref b11), .val (.ref b_18), .val (.int (own_b (p0 = bx ∧ p1 = bz))), .val (.int (own_b (bx = p0 ∧ bz = p1))), .val (.int (own_b (p0 = bx ∧ p1 = bz))), .val (.int (own_b (p0 = p0 ∧ p1 = p1))), .val (.int (own_b ((if p0 = bx then (own_cmp p1 bz) else (own_cmp p0 bx)) = (0 : Int32)))), .val (.int (own_b ((own_hash p0 p1) = (own_hash bx bz)))), .val (.int (0 : Int32)), .val (.int (0 : Int32))] [(.int (own_b (bx = p0 ∧ bz = p1))), (.int (own_b ((if p0 = bx then (own_cmp p1 bz) else (own_cmp p0 bx)) = (0 : Int32))))])) _
    refine XS.icmpYes X43.here hx rfl (pc0 := 186) (pc' := 191) rfl (hb hby at_186) rfl (teq (own_bc (own_c3 _ _ _ _))).1 (by decide) (by decide) ?_
    show Steps p.tables e below (T43.setTop (mkF m 191 #[.val (.int p0), .val (.int p1), .val (.int p2), .val (.int p3), .val (.int p4), .val (.int bx), .val (.int bz), .val (.ref b7), .val (.ref b11), .val (.ref b_18), .val (.int (own_b (p0 = bx ∧ p1 = bz))), .val (.int (own_b (bx = p0 ∧ bz = p1))), .val (.int (own_b (p0 = bx ∧ p1 = bz))), .val (.int (own_b (p0 = p0 ∧ p1 = p1))), .val (.int (own_b ((if p0 = bx then (own_cmp p1 bz) else (own_cmp p0 bx)) = (0 : Int32)))), .val (.int (own_b ((own_hash p0 p1) = (own_hash bx bz)))), .val (.int (0 : Int32)), .val (.int (0 : Int32))] [])) _
    refine XS.iload X43.here hx rfl (hb hby at_191) rfl  ?_
    exact k)
  by_cases hc45 : (bx = p0 ∧ bz = p1)
  ·  -- yes
    obtain ⟨fs, hr, hrun, hended, hW, hsame⟩ := X43.leave (v := some (.int (1 : Int32))) (fun h => by rw [Bd.returns] at h; cases h)
    refine ⟨_, _, pre44 _ ?_, hrun, hended, _, _, rfl, ?_, ⟨_, rfl⟩, hW, hsame.mono (by decide) (by decide)⟩
    · show Steps p.tables e below (T43.setTop (mkF m 193 #[.val (.int p0), .val (.int p1), .val (.int p2), .val (.int p3), .val (.int p4), .val (.int bx), .val (.int bz), .val (.ref b7), .val (.ref b11), .val (.ref b_18), .val (.int (own_b (p0 = bx ∧ p1 = bz))), .val (.int (own_b (bx = p0 ∧ bz = p1))), .val (.int (own_b (p0 = bx ∧ p1 = bz))), .val (.int (own_b (p0 = p0 ∧ p1 = p1))), .val (.int (own_b ((if p0 = bx then (own_cmp p1 bz) else (own_cmp p0 bx)) = (0 : Int32)))), .val (.int (own_b ((own_hash p0 p1) = (own_hash bx bz)))), .val (.int (0 : Int32)), .val (.int (0 : Int32))] [(.int (own_b (bx = p0 ∧ bz = p1)))])) _
      refine XS.ifNo X43.here hx rfl (hb hby at_193) rfl ((if0 _ _).trans (feq (own_b_nz hc45)).1) ?_
      show Steps p.tables e below (T43.setTop (mkF m 196 #[.val (.int p0), .val (.int p1), .val (.int p2), .val (.int p3), .val (.int p4), .val (.int bx), .val (.int bz), .val (.ref b7), .val (.ref b11), .val (.ref b_18), .val (.int (own_b (p0 = bx ∧ p1 = bz))), .val (.int (own_b (bx = p0 ∧ bz = p1))), .val (.int (own_b (p0 = bx ∧ p1 = bz))), .val (.int (own_b (p0 = p0 ∧ p1 = p1))), .val (.int (own_b ((if p0 = bx then (own_cmp p1 bz) else (own_cmp p0 bx)) = (0 : Int32)))), .val (.int (own_b ((own_hash p0 p1) = (own_hash bx bz)))), .val (.int (0 : Int32)), .val (.int (0 : Int32))] [])) _
      refine XS.iload X43.here hx rfl (hb hby at_196) rfl  ?_
      show Steps p.tables e below (T43.setTop (mkF m 198 #[.val (.int p0), .val (.int p1), .val (.int p2), .val (.int p3), .val (.int p4), .val (.int bx), .val (.int bz), .val (.ref b7), .val (.ref b11), .val (.ref b_18), .val (.int (own_b (p0 = bx ∧ p1 = bz))), .val (.int (own_b (bx = p0 ∧ bz = p1))), .val (.int (own_b (p0 = bx ∧ p1 = bz))), .val (.int (own_b (p0 = p0 ∧ p1 = p1))), .val (.int (own_b ((if p0 = bx then (own_cmp p1 bz) else (own_cmp p0 bx)) = (0 : Int32)))), .val (.int (own_b ((own_hash p0 p1) = (own_hash bx bz)))), .val (.int (0 : Int32)), .val (.int (0 : Int32))] [(.int (own_b ((own_hash p0 p1) = (own_hash bx bz))))])) _
      refine XS.ifYes X43.here hx rfl (pc0 := 198) (pc' := 203) rfl (hb hby at_198) rfl ((if0 _ _).trans (feq (own_b_nz (by rw [hc45.1, hc45.2]))).2) (by decide) (by decide) ?_
      show Steps p.tables e below (T43.setTop (mkF m 203 #[.val (.int p0), .val (.int p1), .val (.int p2), .val (.int p3), .val (.int p4), .val (.int bx), .val (.int bz), .val (.ref b7), .val (.ref b11), .val (.ref b_18), .val (.int (own_b (p0 = bx ∧ p1 = bz))), .val (.int (own_b (bx = p0 ∧ bz = p1))), .val (.int (own_b (p0 = bx ∧ p1 = bz))), .val (.int (own_b (p0 = p0 ∧ p1 = p1))), .val (.int (own_b ((if p0 = bx then (own_cmp p1 bz) else (own_cmp p0 bx)) = (0 : Int32)))), .val (.int (own_b ((own_hash p0 p1) = (own_hash bx bz)))), .val (.int (0 : Int32)), .val (.int (0 : Int32))] [])) _
      refine XS.iload X43.here hx rfl (hb hby at_203) rfl  ?_
      show Steps p.tables e below (T43.setTop (mkF m 205 #[.val (.int p0), .val (.int p1), .val (.int p2), .val (.int p3), .val (.int p4), .val (.int bx), .val (.int bz), .val (.ref b7), .val (.ref b11), .val (.ref b_18), .val (.int (own_b (p0 = bx ∧ p1 = bz))), .val (.int (own_b (bx = p0 ∧ bz = p1))), .val (.int (own_b (p0 = bx ∧ p1 = bz))), .val (.int (own_b (p0 = p0 ∧ p1 = p1))), .val (.int (own_b ((if p0 = bx then (own_cmp p1 bz) else (own_cmp p0 bx)) = (0 : Int32)))), .val (.int (own_b ((own_hash p0 p1) = (own_hash bx bz)))), .val (.int (0 : Int32)), .val (.int (0 : Int32))] [(.int (0 : Int32))])) _
      refine XS.ifYes X43.here hx rfl (pc0 := 205) (pc' := 210) rfl (hb hby at_205) rfl ((if0 _ _).trans (teq (by decide)).1) (by decide) (by decide) ?_
      show Steps p.tables e below (T43.setTop (mkF m 210 #[.val (.int p0), .val (.int p1), .val (.int p2), .val (.int p3), .val (.int p4), .val (.int bx), .val (.int bz), .val (.ref b7), .val (.ref b11), .val (.ref b_18), .val (.int (own_b (p0 = bx ∧ p1 = bz))), .val (.int (own_b (bx = p0 ∧ bz = p1))), .val (.int (own_b (p0 = bx ∧ p1 = bz))), .val (.int (own_b (p0 = p0 ∧ p1 = p1))), .val (.int (own_b ((if p0 = bx then (own_cmp p1 bz) else (own_cmp p0 bx)) = (0 : Int32)))), .val (.int (own_b ((own_hash p0 p1) = (own_hash bx bz)))), .val (.int (0 : Int32)), .val (.int (0 : Int32))] [])) _
      refine XS.iload X43.here hx rfl (hb hby at_210) rfl  ?_
      show Steps p.tables e below (T43.setTop (mkF m 212 #[.val (.int p0), .val (.int p1), .val (.int p2), .val (.int p3), .val (.int p4), .val (.int bx), .val (.int bz), .val (.ref b7), .val (.ref b11), .val (.ref b_18), .val (.int (own_b (p0 = bx ∧ p1 = bz))), .val (.int (own_b (bx = p0 ∧ bz = p1))), .val (.int (own_b (p0 = bx ∧ p1 = bz))), .val (.int (own_b (p0 = p0 ∧ p1 = p1))), .val (.int (own_b ((if p0 = bx then (own_cmp p1 bz) else (own_cmp p0 bx)) = (0 : Int32)))), .val (.int (own_b ((own_hash p0 p1) = (own_hash bx bz)))), .val (.int (0 : Int32)), .val (.int (0 : Int32))] [(.int (0 : Int32))])) _
      refine XS.ifYes X43.here hx rfl (pc0 := 212) (pc' := 217) rfl (hb hby at_212) rfl ((if0 _ _).trans (teq (by decide)).1) (by decide) (by decide) ?_
      show Steps p.tables e below (T43.setTop (mkF m 217 #[.val (.int p0), .val (.int p1), .val (.int p2), .val (.int p3), .val (.int p4), .val (.int bx), .val (.int bz), .val (.ref b7), .val (.ref b11), .val (.ref b_18), .val (.int (own_b (p0 = bx ∧ p1 = bz))), .val (.int (own_b (bx = p0 ∧ bz = p1))), .val (.int (own_b (p0 = bx ∧ p1 = bz))), .val (.int (own_b (p0 = p0 ∧ p1 = p1))), .val (.int (own_b ((if p0 = bx then (own_cmp p1 bz) else (own_cmp p0 bx)) = (0 : Int32)))), .val (.int (own_b ((own_hash p0 p1) = (own_hash bx bz)))), .val (.int (0 : Int32)), .val (.int (0 : Int32))] [])) _
      refine XS.iconst X43.here hx rfl (hb hby at_217) ?_
      show Steps p.tables e below (T43.setTop (mkF m 218 #[.val (.int p0), .val (.int p1), .val (.int p2), .val (.int p3), .val (.int p4), .val (.int bx), .val (.int bz), .val (.ref b7), .val (.ref b11), .val (.ref b_18), .val (.int (own_b (p0 = bx ∧ p1 = bz))), .val (.int (own_b (bx = p0 ∧ bz = p1))), .val (.int (own_b (p0 = bx ∧ p1 = bz))), .val (.int (own_b (p0 = p0 ∧ p1 = p1))), .val (.int (own_b ((if p0 = bx then (own_cmp p1 bz) else (own_cmp p0 bx)) = (0 : Int32)))), .val (.int (own_b ((own_hash p0 p1) = (own_hash bx bz)))), .val (.int (0 : Int32)), .val (.int (0 : Int32))] [(.int (1 : Int32))])) _
      exact retN X43 hx (t := .boolean) Bd.returns (by simp) (hb hby at_218) hr
    · show Q0 Z p0 p1 p2 p3 p4 ca cl h0 n0 _ T43.heap _
      rw [e43]
      exact ⟨rfl, N43⟩
  ·  -- no
    obtain ⟨fs, hr, hrun, hended, hW, hsame⟩ := X43.leave (v := some (.int (1 : Int32))) (fun h => by rw [Bd.returns] at h; cases h)
    refine ⟨_, _, pre44 _ ?_, hrun, hended, _, _, rfl, ?_, ⟨_, rfl⟩, hW, hsame.mono (by decide) (by decide)⟩
    · show Steps p.tables e below (T43.setTop (mkF m 193 #[.val (.int p0), .val (.int p1), .val (.int p2), .val (.int p3), .val (.int p4), .val (.int bx), .val (.int bz), .val (.ref b7), .val (.ref b11), .val (.ref b_18), .val (.int (own_b (p0 = bx ∧ p1 = bz))), .val (.int (own_b (bx = p0 ∧ bz = p1))), .val (.int (own_b (p0 = bx ∧ p1 = bz))), .val (.int (own_b (p0 = p0 ∧ p1 = p1))), .val (.int (own_b ((if p0 = bx then (own_cmp p1 bz) else (own_cmp p0 bx)) = (0 : Int32)))), .val (.int (own_b ((own_hash p0 p1) = (own_hash bx bz)))), .val (.int (0 : Int32)), .val (.int (0 : Int32))] [(.int (own_b (bx = p0 ∧ bz = p1)))])) _
      refine XS.ifYes X43.here hx rfl (pc0 := 193) (pc' := 203) rfl (hb hby at_193) rfl ((if0 _ _).trans (teq (own_b_f hc45)).1) (by decide) (by decide) ?_
      show Steps p.tables e below (T43.setTop (mkF m 203 #[.val (.int p0), .val (.int p1), .val (.int p2), .val (.int p3), .val (.int p4), .val (.int bx), .val (.int bz), .val (.ref b7), .val (.ref b11), .val (.ref b_18), .val (.int (own_b (p0 = bx ∧ p1 = bz))), .val (.int (own_b (bx = p0 ∧ bz = p1))), .val (.int (own_b (p0 = bx ∧ p1 = bz))), .val (.int (own_b (p0 = p0 ∧ p1 = p1))), .val (.int (own_b ((if p0 = bx then (own_cmp p1 bz) else (own_cmp p0 bx)) = (0 : Int32)))), .val (.int (own_b ((own_hash p0 p1) = (own_hash bx bz)))), .val (.int (0 : Int32)), .val (.int (0 : Int32))] [])) _
      refine XS.iload X43.here hx rfl (hb hby at_203) rfl  ?_
      show Steps p.tables e below (T43.setTop (mkF m 205 #[.val (.int p0), .val (.int p1), .val (.int p2), .val (.int p3), .val (.int p4), .val (.int bx), .val (.int bz), .val (.ref b7), .val (.ref b11), .val (.ref b_18), .val (.int (own_b (p0 = bx ∧ p1 = bz))), .val (.int (own_b (bx = p0 ∧ bz = p1))), .val (.int (own_b (p0 = bx ∧ p1 = bz))), .val (.int (own_b (p0 = p0 ∧ p1 = p1))), .val (.int (own_b ((if p0 = bx then (own_cmp p1 bz) else (own_cmp p0 bx)) = (0 : Int32)))), .val (.int (own_b ((own_hash p0 p1) = (own_hash bx bz)))), .val (.int (0 : Int32)), .val (.int (0 : Int32))] [(.int (0 : Int32))])) _
      refine XS.ifYes X43.here hx rfl (pc0 := 205) (pc' := 210) rfl (hb hby at_205) rfl ((if0 _ _).trans (teq (by decide)).1) (by decide) (by decide) ?_
      show Steps p.tables e below (T43.setTop (mkF m 210 #[.val (.int p0), .val (.int p1), .val (.int p2), .val (.int p3), .val (.int p4), .val (.int bx), .val (.int bz), .val (.ref b7), .val (.ref b11), .val (.ref b_18), .val (.int (own_b (p0 = bx ∧ p1 = bz))), .val (.int (own_b (bx = p0 ∧ bz = p1))), .val (.int (own_b (p0 = bx ∧ p1 = bz))), .val (.int (own_b (p0 = p0 ∧ p1 = p1))), .val (.int (own_b ((if p0 = bx then (own_cmp p1 bz) else (own_cmp p0 bx)) = (0 : Int32)))), .val (.int (own_b ((own_hash p0 p1) = (own_hash bx bz)))), .val (.int (0 : Int32)), .val (.int (0 : Int32))] [])) _
      refine XS.iload X43.here hx rfl (hb hby at_210) rfl  ?_
      show Steps p.tables e below (T43.setTop (mkF m 212 #[.val (.int p0), .val (.int p1), .val (.int p2), .val (.int p3), .val (.int p4), .val (.int bx), .val (.int bz), .val (.ref b7), .val (.ref b11), .val (.ref b_18), .val (.int (own_b (p0 = bx ∧ p1 = bz))), .val (.int (own_b (bx = p0 ∧ bz = p1))), .val (.int (own_b (p0 = bx ∧ p1 = bz))), .val (.int (own_b (p0 = p0 ∧ p1 = p1))), .val (.int (own_b ((if p0 = bx then (own_cmp p1 bz) else (own_cmp p0 bx)) = (0 : Int32)))), .val (.int (own_b ((own_hash p0 p1) = (own_hash bx bz)))), .val (.int (0 : Int32)), .val (.int (0 : Int32))] [(.int (0 : Int32))])) _
      refine XS.ifYes X43.here hx rfl (pc0 := 212) (pc' := 217) rfl (hb hby at_212) rfl ((if0 _ _).trans (teq (by decide)).1) (by decide) (by decide) ?_
      show Steps p.tables e below (T43.setTop (mkF m 217 #[.val (.int p0), .val (.int p1), .val (.int p2), .val (.int p3), .val (.int p4), .val (.int bx), .val (.int bz), .val (.ref b7), .val (.ref b11), .val (.ref b_18), .val (.int (own_b (p0 = bx ∧ p1 = bz))), .val (.int (own_b (bx = p0 ∧ bz = p1))), .val (.int (own_b (p0 = bx ∧ p1 = bz))), .val (.int (own_b (p0 = p0 ∧ p1 = p1))), .val (.int (own_b ((if p0 = bx then (own_cmp p1 bz) else (own_cmp p0 bx)) = (0 : Int32)))), .val (.int (own_b ((own_hash p0 p1) = (own_hash bx bz)))), .val (.int (0 : Int32)), .val (.int (0 : Int32))] [])) _
      refine XS.iconst X43.here hx rfl (hb hby at_217) ?_
      show Steps p.tables e below (T43.setTop (mkF m 218 #[.val (.int p0), .val (.int p1), .val (.int p2), .val (.int p3), .val (.int p4), .val (.int bx), .val (.int bz), .val (.ref b7), .val (.ref b11), .val (.ref b_18), .val (.int (own_b (p0 = bx ∧ p1 = bz))), .val (.int (own_b (bx = p0 ∧ bz = p1))), .val (.int (own_b (p0 = bx ∧ p1 = bz))), .val (.int (own_b (p0 = p0 ∧ p1 = p1))), .val (.int (own_b ((if p0 = bx then (own_cmp p1 bz) else (own_cmp p0 bx)) = (0 : Int32)))), .val (.int (own_b ((own_hash p0 p1) = (own_hash bx bz)))), .val (.int (0 : Int32)), .val (.int (0 : Int32))] [(.int (1 : Int32))])) _
      exact retN X43 hx (t := .boolean) Bd.returns (by simp) (hb hby at_218) hr
    · show Q0 Z p0 p1 p2 p3 p4 ca cl h0 n0 _ T43.heap _
      rw [e43]
      exact ⟨rfl, N43⟩
set_option maxRecDepth 65536 in
set_option maxHeartbeats 40000000 in
theorem comes_1 {Post : Tables → Env → Array Value → State → Outcome → State → Prop} (hpost : ∀ tb e args s v u, (limb_1_1.after args s (.returned v) u = true ∧ limb_1_2.after args s (.returned v) u = true ∧ True) → FrameEnd s (.returned v) u (Jvm.fieldLocs frame_1_writes args s ++ Jvm.arrayLocs frame_1_arrays args s ++ Jvm.staticLocs frame_1_statics s) 16 128 → Post tb e args s (.returned v) u) :
    ArmFor flags0 classFile x code maxLocals ret World_1 tables_1 room_1 Calls_1 rest_1 Pre_1 Post := by
  intro l hfl _ _ p e ha hc hk s m args below hf hA hF happ hP
  obtain ⟨hcalls, hrest, hpre⟩ := hP
  obtain ⟨-, -, -, hnamed, -, -, -, hat⟩ := (Spec.applies_iff hf).mp happ
  obtain ⟨hg, hn⟩ := and_e (Cond.before_iff.mp (show (Jvm.Cond.and given_1 narrow_1).before args s = true from hpre))
  obtain ⟨g1, g2⟩ := and_e hg
  obtain ⟨g3, g4⟩ := and_e g2
  obtain ⟨g5, g6⟩ := and_e g4
  obtain ⟨g7, g8⟩ := and_e g6
  obtain ⟨g9, g10⟩ := and_e g8
  obtain ⟨w0, w1, w2, w3, w4, rfl⟩ : ∃ w0 w1 w2 w3 w4 : Value, args = #[w0, w1, w2, w3, w4] := by
    have hs : args.size = 5 := by simpa [Cond.value, given_1] using g1
    obtain ⟨L⟩ := args
    match L, hs with
    | [w0, w1, w2, w3, w4], _ => exact ⟨w0, w1, w2, w3, w4, rfl⟩
  have hw := fun d (hd : d ∈ tables_1) => atoms_spec (ws := Jvm.Cond.code x code maxLocals ret :: tables_1) hat d (List.mem_cons_of_mem _ hd)
  have hfit : Fit s := fun {y c} hc i hi => by
    obtain ⟨ha, rfl⟩ := Array.getElem?_eq_some_iff.mp hc
    have q := List.all_eq_true.mp ((Array.all_eq_true_iff_forall_mem.mp hF) _ (Array.getElem_mem ha)) i (List.mem_range.mpr hi)
    simpa [Array.getElem?_eq_getElem hi] using q
  obtain ⟨hsets, hown0⟩ := atoms_of _ (rest_1_c_eq ▸ (show rest_1_c.before _ s = true from hrest))
  have hr0 := Cond.before_iff.mp hown0
  obtain ⟨i0, ei0⟩ := is_v g3
  obtain rfl : w0 = (.int i0) := Option.some.inj ei0
  obtain ⟨i1, ei1⟩ := is_v g5
  obtain rfl : w1 = (.int i1) := Option.some.inj ei1
  obtain ⟨i2, ei2⟩ := is_v g7
  obtain rfl : w2 = (.int i2) := Option.some.inj ei2
  obtain ⟨i3, ei3⟩ := is_v g9
  obtain rfl : w3 = (.int i3) := Option.some.inj ei3
  obtain ⟨i4, ei4⟩ := is_v g10
  obtain rfl : w4 = (.int i4) := Option.some.inj ei4
  have hsi := own_eqI (Cond.before_iff.mp (hsets _ (List.mem_of_getElem? (i := 3) rfl)))
  have Sh := Sta.start hsi (Or.inl (hsets _ (List.mem_of_getElem? (i := 1) rfl)))
  obtain ⟨ca, eca⟩ := arr_v (Cond.before_iff.mp (hsets _ (List.mem_of_getElem? (i := 4) rfl)))
  have Sc := Sta.start eca (Or.inr ⟨(ow hw 23 rfl), hsets _ (List.mem_of_getElem? (i := 2) rfl)⟩)
  obtain ⟨cl, Ac⟩ := Arr.start eca (Cond.before_iff.mp (hsets _ (List.mem_of_getElem? (i := 4) rfl)))
  have hsz : cl.slots.size = 256 := own_len eca Ac (hsets _ (List.mem_of_getElem? (i := 6) rfl))
  have hall := Cond.before_iff.mp (hsets _ (List.mem_of_getElem? (i := 7) rfl))
  have hcc := own_cache eca Ac hall
  obtain ⟨n, o, h1, h2, h3, _, L, rfl, ⟨rfl, N⟩, hq⟩ := rm0 l s _ hw tables_1 i0 i1 i2 i3 i4 ca cl s.heap s.heap.size (Nat.le_refl _) Sh Sc Ac hsz hcc (Old.start s) p e ha hc hk s m _ below hf ((Spec.applies_iff_loose hf).mp happ).1 ⟨rfl, State.Warmed39.refl s, rfl⟩ trivial
  refine ⟨n, _, h1, h2, h3, hpost _ _ _ _ _ _ ⟨Cond.after_iff.mpr rfl, Cond.after_iff.mpr (eq_i res_at (Term.int_eval (1)) rfl), trivial⟩ ⟨hq.1, hq.2.1, (hq.2.2.sift fun y hy => Or.inr (N y hy)).mono (by decide) (by decide)⟩⟩
theorem main_1_1 : Claimed_1_1 := comes_1 fun _ _ _ _ _ _ h hF => ⟨h.1, hF⟩
theorem main_1_2 : Claimed_1_2 := comes_1 fun _ _ _ _ _ _ h hF => ⟨h.2.1, hF⟩
end Jvm.Pilot.@@N@@
namespace Jvm.Pilot.@@N@@
open Jvm Jvm.ClassFile Sem Op Lib Jvm.Free Jvm.Stand Jvm.Pilot.@@N@@.Jvm.D
/-! MADE BY PROGRAM (witnessworld.py) out of the Statement's table words and the real class files: 17 classes; the members and pool entries that the words name. The judged class is class 1, her method 1. -/
namespace start1
open Jvm.ClassFile
def u (s : String) : CpInfo := .utf8 (stringToUtf16 s)
/-- a pool by its gaps: so many unusable entries, then the entry; so many at the end -/
def gap : Nat → List CpInfo → List CpInfo
  | 0, r => r
  | n + 1, r => .unusable :: gap n r
def poolList (es : List (Nat × CpInfo)) (last : Nat) : List CpInfo := es.foldr (fun e r => gap e.1 (e.2 :: r)) (gap last [])
def pool (es : List (Nat × CpInfo)) (last : Nat) : Array CpInfo := ⟨poolList es last⟩
def fileOf (pool : Array CpInfo) (this : Nat) (attrs : Array Attribute := #[]) (ms : Array MethodInfo := #[]) (fl : Nat := 33) (sup : Nat := 0) (ifs : Array Nat := #[]) (fds : Array FieldInfo := #[]) : ClassFile where
  minorVersion := 0
  majorVersion := 65
  constantPool := pool
  accessFlags := fl
  thisClass := this
  superClass := sup
  interfaces := ifs
  fields := fds
  methods := ms
  attributes := attrs
def plain (name : String) (sup : Option ClassId) : Class where
  name := name
  kind := .ordinary
  loader := none
  accessFlags := 33
  super := sup
  interfaces := #[]
  cf := none
  fields := #[]
  methods := #[]
  instanceTypes := #[]
  staticTypes := #[]
  resolved := #[]
  callSites := []
  init := .initialized
  statics := none
  mirror := none

def pool0 : Array CpInfo := pool [(5, u "<init>"), (0, u "()V"), (1, .class_ 10), (1, u "java/lang/Object")] 113

def k0c0 : Code := { maxStack := 0, maxLocals := 1, code := object_method_1_code, exceptionTable := #[], attributes := #[] }
def k0m0 : Method := { name := "<init>", desc := "()V", sig := { parameters := [], returnType := none }, accessFlags := 1, code := some k0c0 }
/-- java/lang/Object -/
def k0 : Class := { plain "java/lang/Object" none with
  accessFlags := 33
  interfaces := #[]
  cf := some (fileOf pool0 8 #[] #[{ accessFlags := 1, nameIndex := 5, descriptorIndex := 6, attributes := #[] }] 33 0 #[] #[])
  fields := #[]
  methods := #[k0m0]
  instanceTypes := #[]
  staticTypes := #[]
  resolved := Array.replicate 124 none
  statics := none }

def pool1 : Array CpInfo := pool [(2, .class_ 4), (1, u "java/lang/Object"), (0, u "<init>"), (0, u "()V"), (0, .class_ 8), (0, u "com/example/tackboard/tackboard/core/Pin"), (0, .methodref 7 10), (0, .nameAndType 5 11), (0, u "(II)V"), (0, .methodref 13 14), (0, .class_ 15), (0, .nameAndType 16 17), (0, u "java/lang/Integer"), (0, u "valueOf"), (0, u "(I)Ljava/lang/Integer;"), (0, .methodref 7 19), (0, .nameAndType 20 21), (0, u "equals"), (0, u "(Ljava/lang/Object;)Z"), (0, .methodref 7 23), (0, .nameAndType 24 25), (0, u "compareTo"), (0, u "(Lcom/example/tackboard/tackboard/core/Pin;)I"), (0, .methodref 7 27), (0, .nameAndType 28 29), (0, u "hashCode"), (0, u "()I"), (0, .class_ 31), (0, u "com/example/tackboard/tackboard/core/PinEqualsPinLaw"), (2, u "law"), (0, u "(IIIII)Z")] 3

def k1m0 : Method := { name := "<init>", desc := "()V", sig := { parameters := [], returnType := none }, accessFlags := 1, code := none }
def k1c1 : Code := { maxStack := 4, maxLocals := 18, code := code, exceptionTable := #[], attributes := #[] }
def k1m1 : Method := { name := "law", desc := "(IIIII)Z", sig := { parameters := [.int, .int, .int, .int, .int], returnType := some .boolean }, accessFlags := 9, code := some k1c1 }
/-- com/example/tackboard/tackboard/core/PinEqualsPinLaw -/
def k1 : Class := { plain "com/example/tackboard/tackboard/core/PinEqualsPinLaw" (some 0) with
  accessFlags := 49
  interfaces := #[]
  cf := some (fileOf pool1 30 #[] #[{ accessFlags := 1, nameIndex := 5, descriptorIndex := 6, attributes := #[] }, { accessFlags := 9, nameIndex := 34, descriptorIndex := 35, attributes := #[] }] 49 2 #[] #[])
  fields := #[]
  methods := #[k1m0, k1m1]
  instanceTypes := #[]
  staticTypes := #[]
  resolved := Array.replicate 39 none
  statics := none }

def pool2 : Array CpInfo := pool [(1, .methodref 2 3), (0, .class_ 4), (0, .nameAndType 5 6), (0, u "java/lang/Object"), (0, u "<init>"), (0, u "()V"), (0, .class_ 8), (0, u "java/lang/Record")] 13

def k2c0 : Code := { maxStack := 1, maxLocals := 1, code := jdk_30_method_1_code, exceptionTable := #[], attributes := #[] }
def k2m0 : Method := { name := "<init>", desc := "()V", sig := { parameters := [], returnType := none }, accessFlags := 4, code := some k2c0 }
/-- java/lang/Record -/
def k2 : Class := { plain "java/lang/Record" (some 0) with
  accessFlags := 1057
  interfaces := #[]
  cf := some (fileOf pool2 7 #[] #[{ accessFlags := 4, nameIndex := 5, descriptorIndex := 6, attributes := #[] }] 1057 2 #[] #[])
  fields := #[]
  methods := #[k2m0]
  instanceTypes := #[]
  staticTypes := #[]
  resolved := Array.replicate 22 none
  statics := none }

def pool3 : Array CpInfo := pool [(1, .class_ 2), (0, u "java/lang/Comparable"), (0, .class_ 4), (0, u "java/lang/Object")] 7

/-- java/lang/Comparable -/
def k3 : Class := { plain "java/lang/Comparable" (some 0) with
  accessFlags := 1537
  interfaces := #[]
  cf := some (fileOf pool3 1 #[] #[] 1537 3 #[] #[])
  fields := #[]
  methods := #[]
  instanceTypes := #[]
  staticTypes := #[]
  resolved := Array.replicate 12 none
  statics := none }

def pool4 : Array CpInfo := pool [(1, .methodref 2 3), (0, .class_ 4), (0, .nameAndType 5 6), (0, u "java/lang/Record"), (0, u "<init>"), (0, u "()V"), (0, .fieldref 8 9), (0, .class_ 10), (0, .nameAndType 11 12), (0, u "com/example/tackboard/tackboard/core/Pin"), (0, u "x"), (0, u "I"), (0, .fieldref 8 14), (0, .nameAndType 15 12), (0, u "y"), (0, .integer 2654435769), (0, .methodref 18 19), (0, .class_ 20), (0, .nameAndType 21 22), (0, u "java/lang/Integer"), (0, u "compare"), (0, u "(II)I"), (2, u "compareTo"), (0, u "(Lcom/example/tackboard/tackboard/core/Pin;)I"), (4, .class_ 32), (0, u "java/lang/Comparable"), (0, u "GOLDEN"), (1, u "(II)V"), (3, u "hashCode"), (0, u "()I"), (0, u "equals"), (0, u "(Ljava/lang/Object;)Z")] 26

def k4c0 : Code := { maxStack := 2, maxLocals := 3, code := prog_30_method_1_code, exceptionTable := #[], attributes := #[] }
def k4m0 : Method := { name := "<init>", desc := "(II)V", sig := { parameters := [.int, .int], returnType := none }, accessFlags := 1, code := some k4c0 }
def k4c1 : Code := { maxStack := 3, maxLocals := 2, code := prog_30_method_2_code, exceptionTable := #[], attributes := #[] }
def k4m1 : Method := { name := "hashCode", desc := "()I", sig := { parameters := [], returnType := some .int }, accessFlags := 1, code := some k4c1 }
def k4c2 : Code := { maxStack := 2, maxLocals := 3, code := prog_30_method_3_code, exceptionTable := #[], attributes := #[] }
def k4m2 : Method := { name := "equals", desc := "(Ljava/lang/Object;)Z", sig := { parameters := [(.object "java/lang/Object")], returnType := some .boolean }, accessFlags := 1, code := some k4c2 }
def k4c3 : Code := { maxStack := 2, maxLocals := 2, code := prog_30_method_4_code, exceptionTable := #[], attributes := #[] }
def k4m3 : Method := { name := "compareTo", desc := "(Lcom/example/tackboard/tackboard/core/Pin;)I", sig := { parameters := [(.object "com/example/tackboard/tackboard/core/Pin")], returnType := some .int }, accessFlags := 1, code := some k4c3 }
/-- com/example/tackboard/tackboard/core/Pin -/
def k4 : Class := { plain "com/example/tackboard/tackboard/core/Pin" (some 2) with
  accessFlags := 49
  interfaces := #[3]
  cf := some (fileOf pool4 8 #[] #[{ accessFlags := 1, nameIndex := 5, descriptorIndex := 35, attributes := #[] }, { accessFlags := 1, nameIndex := 39, descriptorIndex := 40, attributes := #[] }, { accessFlags := 1, nameIndex := 41, descriptorIndex := 42, attributes := #[] }, { accessFlags := 1, nameIndex := 25, descriptorIndex := 26, attributes := #[] }] 49 2 #[31] #[{ accessFlags := 18, nameIndex := 11, descriptorIndex := 12, attributes := #[] }, { accessFlags := 18, nameIndex := 15, descriptorIndex := 12, attributes := #[] }, { accessFlags := 26, nameIndex := 33, descriptorIndex := 12, attributes := #[] }])
  fields := #[{ name := "x", type := .int, accessFlags := 18, slot := 0, constantValue := 0 }, { name := "y", type := .int, accessFlags := 18, slot := 1, constantValue := 0 }, { name := "GOLDEN", type := .int, accessFlags := 26, slot := 0, constantValue := 0 }]
  methods := #[k4m0, k4m1, k4m2, k4m3]
  instanceTypes := #[.int, .int]
  staticTypes := #[.int]
  resolved := Array.replicate 69 none
  statics := none }

def pool5 : Array CpInfo := pool [(1, .class_ 2), (0, u "java/io/Serializable"), (0, .class_ 4), (0, u "java/lang/Object")] 2

/-- java/io/Serializable -/
def k5 : Class := { plain "java/io/Serializable" (some 0) with
  accessFlags := 1537
  interfaces := #[]
  cf := some (fileOf pool5 1 #[] #[] 1537 3 #[] #[])
  fields := #[]
  methods := #[]
  instanceTypes := #[]
  staticTypes := #[]
  resolved := Array.replicate 7 none
  statics := none }

def pool6 : Array CpInfo := pool [(1, .methodref 2 3), (0, .class_ 4), (0, .nameAndType 5 6), (0, u "java/lang/Object"), (0, u "<init>"), (0, u "()V"), (1, .class_ 10), (1, u "java/lang/Number"), (2, .class_ 14), (0, u "java/io/Serializable"), (0, u "serialVersionUID"), (0, u "J")] 20

def k6c0 : Code := { maxStack := 1, maxLocals := 1, code := jdk_18_method_1_code, exceptionTable := #[], attributes := #[] }
def k6m0 : Method := { name := "<init>", desc := "()V", sig := { parameters := [], returnType := none }, accessFlags := 1, code := some k6c0 }
/-- java/lang/Number -/
def k6 : Class := { plain "java/lang/Number" (some 0) with
  accessFlags := 1057
  interfaces := #[5]
  cf := some (fileOf pool6 8 #[] #[{ accessFlags := 1, nameIndex := 5, descriptorIndex := 6, attributes := #[] }] 1057 2 #[13] #[{ accessFlags := 26, nameIndex := 15, descriptorIndex := 16, attributes := #[] }])
  fields := #[{ name := "serialVersionUID", type := .long, accessFlags := 26, slot := 0, constantValue := 0 }]
  methods := #[k6m0]
  instanceTypes := #[]
  staticTypes := #[.long]
  resolved := Array.replicate 37 none
  statics := none }

def pool7 : Array CpInfo := pool [(1, .class_ 2), (0, u "java/lang/constant/Constable"), (0, .class_ 4), (0, u "java/lang/Object")] 6

/-- java/lang/constant/Constable -/
def k7 : Class := { plain "java/lang/constant/Constable" (some 0) with
  accessFlags := 1537
  interfaces := #[]
  cf := some (fileOf pool7 1 #[] #[] 1537 3 #[] #[])
  fields := #[]
  methods := #[]
  instanceTypes := #[]
  staticTypes := #[]
  resolved := Array.replicate 11 none
  statics := none }

def pool8 : Array CpInfo := pool [(1, .class_ 2), (0, u "java/lang/constant/ConstantDesc"), (0, .class_ 4), (0, u "java/lang/Object")] 32

/-- java/lang/constant/ConstantDesc -/
def k8 : Class := { plain "java/lang/constant/ConstantDesc" (some 0) with
  accessFlags := 1537
  interfaces := #[]
  cf := some (fileOf pool8 1 #[] #[] 1537 3 #[] #[])
  fields := #[]
  methods := #[]
  instanceTypes := #[]
  staticTypes := #[]
  resolved := Array.replicate 37 none
  statics := none }

def pool9 : Array CpInfo := pool [(1, .class_ 2), (0, u "java/lang/Integer"), (16, u "digits"), (0, u "[C"), (39, u "(II)I"), (6, u "<init>"), (17, u "DigitOnes"), (0, u "[B"), (2, u "DigitTens"), (10, .nameAndType 67 101), (0, u "()V"), (85, u "valueOf"), (0, u "(I)Ljava/lang/Integer;"), (0, .class_ 190), (0, u "java/lang/Integer$IntegerCache"), (0, .fieldref 189 192), (0, .nameAndType 193 194), (0, u "high"), (0, u "I"), (0, .fieldref 189 196), (0, .nameAndType 197 198), (0, u "cache"), (0, u "[Ljava/lang/Integer;"), (0, .methodref 1 200), (0, .nameAndType 67 201), (0, u "(I)V"), (0, .methodref 203 100), (0, .class_ 204), (0, u "java/lang/Number"), (0, .fieldref 1 206), (0, .nameAndType 207 194), (0, u "value"), (53, u "compare"), (40, u "TYPE"), (0, u "Ljava/lang/Class;"), (0, .class_ 305), (0, u "java/lang/Comparable"), (0, .class_ 307), (0, u "java/lang/constant/Constable"), (0, .class_ 309), (0, u "java/lang/constant/ConstantDesc"), (0, u "MIN_VALUE"), (1, u "MAX_VALUE"), (3, u "SIZE"), (1, u "BYTES"), (1, u "serialVersionUID"), (0, u "J")] 131

def k9c0 : Code := { maxStack := 3, maxLocals := 1, code := jdk_33_method_22_code, exceptionTable := #[], attributes := #[] }
def k9m0 : Method := { name := "valueOf", desc := "(I)Ljava/lang/Integer;", sig := { parameters := [.int], returnType := some (.object "java/lang/Integer") }, accessFlags := 9, code := some k9c0 }
def k9c1 : Code := { maxStack := 2, maxLocals := 2, code := jdk_33_method_23_code, exceptionTable := #[], attributes := #[] }
def k9m1 : Method := { name := "<init>", desc := "(I)V", sig := { parameters := [.int], returnType := none }, accessFlags := 1, code := some k9c1 }
def k9c2 : Code := { maxStack := 2, maxLocals := 2, code := jdk_33_method_40_code, exceptionTable := #[], attributes := #[] }
def k9m2 : Method := { name := "compare", desc := "(II)I", sig := { parameters := [.int, .int], returnType := some .int }, accessFlags := 9, code := some k9c2 }
/-- java/lang/Integer -/
def k9 : Class := { plain "java/lang/Integer" (some 6) with
  accessFlags := 49
  interfaces := #[3, 7, 8]
  cf := some (fileOf pool9 1 #[.nestMembers #[189]] #[{ accessFlags := 9, nameIndex := 187, descriptorIndex := 188, attributes := #[] }, { accessFlags := 1, nameIndex := 67, descriptorIndex := 201, attributes := #[] }, { accessFlags := 9, nameIndex := 261, descriptorIndex := 60, attributes := #[] }] 49 203 #[304, 306, 308] #[{ accessFlags := 25, nameIndex := 310, descriptorIndex := 194, attributes := #[] }, { accessFlags := 25, nameIndex := 312, descriptorIndex := 194, attributes := #[] }, { accessFlags := 25, nameIndex := 302, descriptorIndex := 303, attributes := #[] }, { accessFlags := 24, nameIndex := 19, descriptorIndex := 20, attributes := #[] }, { accessFlags := 24, nameIndex := 89, descriptorIndex := 86, attributes := #[] }, { accessFlags := 24, nameIndex := 85, descriptorIndex := 86, attributes := #[] }, { accessFlags := 18, nameIndex := 207, descriptorIndex := 194, attributes := #[] }, { accessFlags := 25, nameIndex := 316, descriptorIndex := 194, attributes := #[] }, { accessFlags := 25, nameIndex := 318, descriptorIndex := 194, attributes := #[] }, { accessFlags := 26, nameIndex := 320, descriptorIndex := 321, attributes := #[] }])
  fields := #[{ name := "MIN_VALUE", type := .int, accessFlags := 25, slot := 0, constantValue := 0 }, { name := "MAX_VALUE", type := .int, accessFlags := 25, slot := 1, constantValue := 0 }, { name := "TYPE", type := (.object "java/lang/Class"), accessFlags := 25, slot := 2, constantValue := 0 }, { name := "digits", type := (.array .char), accessFlags := 24, slot := 3, constantValue := 0 }, { name := "DigitTens", type := (.array .byte), accessFlags := 24, slot := 4, constantValue := 0 }, { name := "DigitOnes", type := (.array .byte), accessFlags := 24, slot := 5, constantValue := 0 }, { name := "value", type := .int, accessFlags := 18, slot := 0, constantValue := 0 }, { name := "SIZE", type := .int, accessFlags := 25, slot := 6, constantValue := 0 }, { name := "BYTES", type := .int, accessFlags := 25, slot := 7, constantValue := 0 }, { name := "serialVersionUID", type := .long, accessFlags := 26, slot := 8, constantValue := 0 }]
  methods := #[k9m0, k9m1, k9m2]
  instanceTypes := #[.int]
  staticTypes := #[.int, .int, (.object "java/lang/Class"), (.array .char), (.array .byte), (.array .byte), .int, .int, .long]
  resolved := Array.replicate 453 none
  statics := none }

def pool10 : Array CpInfo := pool [(2, .class_ 4), (1, u "java/lang/Object"), (0, u "<init>"), (0, u "()V"), (0, .class_ 8), (0, u "java/lang/Integer"), (7, .class_ 18), (1, u "java/lang/Integer$IntegerCache"), (0, u "$assertionsDisabled"), (0, u "Z"), (26, u "high"), (0, u "I"), (8, u "archivedCache"), (0, u "[Ljava/lang/Integer;"), (12, u "cache"), (0, u "low")] 27

def k10m0 : Method := { name := "<init>", desc := "()V", sig := { parameters := [], returnType := none }, accessFlags := 2, code := none }
/-- java/lang/Integer$IntegerCache -/
def k10 : Class := { plain "java/lang/Integer$IntegerCache" (some 0) with
  accessFlags := 48
  interfaces := #[]
  cf := some (fileOf pool10 16 #[.nestHost 7] #[{ accessFlags := 2, nameIndex := 5, descriptorIndex := 6, attributes := #[] }] 48 2 #[] #[{ accessFlags := 24, nameIndex := 72, descriptorIndex := 48, attributes := #[] }, { accessFlags := 24, nameIndex := 47, descriptorIndex := 48, attributes := #[] }, { accessFlags := 24, nameIndex := 71, descriptorIndex := 58, attributes := #[] }, { accessFlags := 8, nameIndex := 57, descriptorIndex := 58, attributes := #[] }, { accessFlags := 4120, nameIndex := 19, descriptorIndex := 20, attributes := #[] }])
  fields := #[{ name := "low", type := .int, accessFlags := 24, slot := 0, constantValue := 0 }, { name := "high", type := .int, accessFlags := 24, slot := 1, constantValue := 0 }, { name := "cache", type := (.array (.object "java/lang/Integer")), accessFlags := 24, slot := 2, constantValue := 0 }, { name := "archivedCache", type := (.array (.object "java/lang/Integer")), accessFlags := 8, slot := 3, constantValue := 0 }, { name := "$assertionsDisabled", type := .boolean, accessFlags := 4120, slot := 4, constantValue := 0 }]
  methods := #[k10m0]
  instanceTypes := #[]
  staticTypes := #[.int, .int, (.array (.object "java/lang/Integer")), (.array (.object "java/lang/Integer")), .boolean]
  resolved := Array.replicate 100 none
  statics := some 0 }

def pool11 : Array CpInfo := pool [(1, u "java/lang/Cloneable"), (0, .class_ 1), (0, u "java/lang/Object"), (0, .class_ 3)] 3

/-- java/lang/Cloneable -/
def k11 : Class := { plain "java/lang/Cloneable" (some 0) with
  accessFlags := 1537
  interfaces := #[]
  cf := some (fileOf pool11 2 #[] #[] 1537 4 #[] #[])
  fields := #[]
  methods := #[]
  instanceTypes := #[]
  staticTypes := #[]
  resolved := Array.replicate 8 none
  statics := none }

/-- the primitive byte -/
def k12 : Class := { plain "byte" none with kind := .primitive 'B', accessFlags := 0x411 }
/-- [B -/
def k13 : Class := { plain "[B" (some 0) with kind := .array 12 .byte, interfaces := #[11, 5], accessFlags := 1041 }

/-- the primitive int -/
def k14 : Class := { plain "int" none with kind := .primitive 'I', accessFlags := 0x411 }
/-- [I -/
def k15 : Class := { plain "[I" (some 0) with kind := .array 14 .int, interfaces := #[11, 5], accessFlags := 1041 }

/-- [Ljava/lang/Integer; -/
def k16 : Class := { plain "[Ljava/lang/Integer;" (some 0) with kind := .array 9 (.object "java/lang/Integer"), interfaces := #[11, 5], accessFlags := 1041 }

def heap : Heap := #[{ cls := 10, slots := #[.int 0, .int 127, .ref 1, .null, .int 0], vm := .statics 10 },
  { cls := 16, slots := #[.ref 2, .ref 3, .ref 4, .ref 5, .ref 6, .ref 7, .ref 8, .ref 9, .ref 10, .ref 11, .ref 12, .ref 13, .ref 14, .ref 15, .ref 16, .ref 17, .ref 18, .ref 19, .ref 20, .ref 21, .ref 22, .ref 23, .ref 24, .ref 25, .ref 26, .ref 27, .ref 28, .ref 29, .ref 30, .ref 31, .ref 32, .ref 33, .ref 34, .ref 35, .ref 36, .ref 37, .ref 38, .ref 39, .ref 40, .ref 41, .ref 42, .ref 43, .ref 44, .ref 45, .ref 46, .ref 47, .ref 48, .ref 49, .ref 50, .ref 51, .ref 52, .ref 53, .ref 54, .ref 55, .ref 56, .ref 57, .ref 58, .ref 59, .ref 60, .ref 61, .ref 62, .ref 63, .ref 64, .ref 65, .ref 66, .ref 67, .ref 68, .ref 69, .ref 70, .ref 71, .ref 72, .ref 73, .ref 74, .ref 75, .ref 76, .ref 77, .ref 78, .ref 79, .ref 80, .ref 81, .ref 82, .ref 83, .ref 84, .ref 85, .ref 86, .ref 87, .ref 88, .ref 89, .ref 90, .ref 91, .ref 92, .ref 93, .ref 94, .ref 95, .ref 96, .ref 97, .ref 98, .ref 99, .ref 100, .ref 101, .ref 102, .ref 103, .ref 104, .ref 105, .ref 106, .ref 107, .ref 108, .ref 109, .ref 110, .ref 111, .ref 112, .ref 113, .ref 114, .ref 115, .ref 116, .ref 117, .ref 118, .ref 119, .ref 120, .ref 121, .ref 122, .ref 123, .ref 124, .ref 125, .ref 126, .ref 127, .ref 128, .ref 129, .ref 130, .ref 131, .ref 132, .ref 133, .ref 134, .ref 135, .ref 136, .ref 137, .ref 138, .ref 139, .ref 140, .ref 141, .ref 142, .ref 143, .ref 144, .ref 145, .ref 146, .ref 147, .ref 148, .ref 149, .ref 150, .ref 151, .ref 152, .ref 153, .ref 154, .ref 155, .ref 156, .ref 157, .ref 158, .ref 159, .ref 160, .ref 161, .ref 162, .ref 163, .ref 164, .ref 165, .ref 166, .ref 167, .ref 168, .ref 169, .ref 170, .ref 171, .ref 172, .ref 173, .ref 174, .ref 175, .ref 176, .ref 177, .ref 178, .ref 179, .ref 180, .ref 181, .ref 182, .ref 183, .ref 184, .ref 185, .ref 186, .ref 187, .ref 188, .ref 189, .ref 190, .ref 191, .ref 192, .ref 193, .ref 194, .ref 195, .ref 196, .ref 197, .ref 198, .ref 199, .ref 200, .ref 201, .ref 202, .ref 203, .ref 204, .ref 205, .ref 206, .ref 207, .ref 208, .ref 209, .ref 210, .ref 211, .ref 212, .ref 213, .ref 214, .ref 215, .ref 216, .ref 217, .ref 218, .ref 219, .ref 220, .ref 221, .ref 222, .ref 223, .ref 224, .ref 225, .ref 226, .ref 227, .ref 228, .ref 229, .ref 230, .ref 231, .ref 232, .ref 233, .ref 234, .ref 235, .ref 236, .ref 237, .ref 238, .ref 239, .ref 240, .ref 241, .ref 242, .ref 243, .ref 244, .ref 245, .ref 246, .ref 247, .ref 248, .ref 249, .ref 250, .ref 251, .ref 252, .ref 253, .ref 254, .ref 255, .ref 256, .ref 257], vm := .none },
  { cls := 9, slots := #[.int (-128)], vm := .none },
  { cls := 9, slots := #[.int (-127)], vm := .none },
  { cls := 9, slots := #[.int (-126)], vm := .none },
  { cls := 9, slots := #[.int (-125)], vm := .none },
  { cls := 9, slots := #[.int (-124)], vm := .none },
  { cls := 9, slots := #[.int (-123)], vm := .none },
  { cls := 9, slots := #[.int (-122)], vm := .none },
  { cls := 9, slots := #[.int (-121)], vm := .none },
  { cls := 9, slots := #[.int (-120)], vm := .none },
  { cls := 9, slots := #[.int (-119)], vm := .none },
  { cls := 9, slots := #[.int (-118)], vm := .none },
  { cls := 9, slots := #[.int (-117)], vm := .none },
  { cls := 9, slots := #[.int (-116)], vm := .none },
  { cls := 9, slots := #[.int (-115)], vm := .none },
  { cls := 9, slots := #[.int (-114)], vm := .none },
  { cls := 9, slots := #[.int (-113)], vm := .none },
  { cls := 9, slots := #[.int (-112)], vm := .none },
  { cls := 9, slots := #[.int (-111)], vm := .none },
  { cls := 9, slots := #[.int (-110)], vm := .none },
  { cls := 9, slots := #[.int (-109)], vm := .none },
  { cls := 9, slots := #[.int (-108)], vm := .none },
  { cls := 9, slots := #[.int (-107)], vm := .none },
  { cls := 9, slots := #[.int (-106)], vm := .none },
  { cls := 9, slots := #[.int (-105)], vm := .none },
  { cls := 9, slots := #[.int (-104)], vm := .none },
  { cls := 9, slots := #[.int (-103)], vm := .none },
  { cls := 9, slots := #[.int (-102)], vm := .none },
  { cls := 9, slots := #[.int (-101)], vm := .none },
  { cls := 9, slots := #[.int (-100)], vm := .none },
  { cls := 9, slots := #[.int (-99)], vm := .none },
  { cls := 9, slots := #[.int (-98)], vm := .none },
  { cls := 9, slots := #[.int (-97)], vm := .none },
  { cls := 9, slots := #[.int (-96)], vm := .none },
  { cls := 9, slots := #[.int (-95)], vm := .none },
  { cls := 9, slots := #[.int (-94)], vm := .none },
  { cls := 9, slots := #[.int (-93)], vm := .none },
  { cls := 9, slots := #[.int (-92)], vm := .none },
  { cls := 9, slots := #[.int (-91)], vm := .none },
  { cls := 9, slots := #[.int (-90)], vm := .none },
  { cls := 9, slots := #[.int (-89)], vm := .none },
  { cls := 9, slots := #[.int (-88)], vm := .none },
  { cls := 9, slots := #[.int (-87)], vm := .none },
  { cls := 9, slots := #[.int (-86)], vm := .none },
  { cls := 9, slots := #[.int (-85)], vm := .none },
  { cls := 9, slots := #[.int (-84)], vm := .none },
  { cls := 9, slots := #[.int (-83)], vm := .none },
  { cls := 9, slots := #[.int (-82)], vm := .none },
  { cls := 9, slots := #[.int (-81)], vm := .none },
  { cls := 9, slots := #[.int (-80)], vm := .none },
  { cls := 9, slots := #[.int (-79)], vm := .none },
  { cls := 9, slots := #[.int (-78)], vm := .none },
  { cls := 9, slots := #[.int (-77)], vm := .none },
  { cls := 9, slots := #[.int (-76)], vm := .none },
  { cls := 9, slots := #[.int (-75)], vm := .none },
  { cls := 9, slots := #[.int (-74)], vm := .none },
  { cls := 9, slots := #[.int (-73)], vm := .none },
  { cls := 9, slots := #[.int (-72)], vm := .none },
  { cls := 9, slots := #[.int (-71)], vm := .none },
  { cls := 9, slots := #[.int (-70)], vm := .none },
  { cls := 9, slots := #[.int (-69)], vm := .none },
  { cls := 9, slots := #[.int (-68)], vm := .none },
  { cls := 9, slots := #[.int (-67)], vm := .none },
  { cls := 9, slots := #[.int (-66)], vm := .none },
  { cls := 9, slots := #[.int (-65)], vm := .none },
  { cls := 9, slots := #[.int (-64)], vm := .none },
  { cls := 9, slots := #[.int (-63)], vm := .none },
  { cls := 9, slots := #[.int (-62)], vm := .none },
  { cls := 9, slots := #[.int (-61)], vm := .none },
  { cls := 9, slots := #[.int (-60)], vm := .none },
  { cls := 9, slots := #[.int (-59)], vm := .none },
  { cls := 9, slots := #[.int (-58)], vm := .none },
  { cls := 9, slots := #[.int (-57)], vm := .none },
  { cls := 9, slots := #[.int (-56)], vm := .none },
  { cls := 9, slots := #[.int (-55)], vm := .none },
  { cls := 9, slots := #[.int (-54)], vm := .none },
  { cls := 9, slots := #[.int (-53)], vm := .none },
  { cls := 9, slots := #[.int (-52)], vm := .none },
  { cls := 9, slots := #[.int (-51)], vm := .none },
  { cls := 9, slots := #[.int (-50)], vm := .none },
  { cls := 9, slots := #[.int (-49)], vm := .none },
  { cls := 9, slots := #[.int (-48)], vm := .none },
  { cls := 9, slots := #[.int (-47)], vm := .none },
  { cls := 9, slots := #[.int (-46)], vm := .none },
  { cls := 9, slots := #[.int (-45)], vm := .none },
  { cls := 9, slots := #[.int (-44)], vm := .none },
  { cls := 9, slots := #[.int (-43)], vm := .none },
  { cls := 9, slots := #[.int (-42)], vm := .none },
  { cls := 9, slots := #[.int (-41)], vm := .none },
  { cls := 9, slots := #[.int (-40)], vm := .none },
  { cls := 9, slots := #[.int (-39)], vm := .none },
  { cls := 9, slots := #[.int (-38)], vm := .none },
  { cls := 9, slots := #[.int (-37)], vm := .none },
  { cls := 9, slots := #[.int (-36)], vm := .none },
  { cls := 9, slots := #[.int (-35)], vm := .none },
  { cls := 9, slots := #[.int (-34)], vm := .none },
  { cls := 9, slots := #[.int (-33)], vm := .none },
  { cls := 9, slots := #[.int (-32)], vm := .none },
  { cls := 9, slots := #[.int (-31)], vm := .none },
  { cls := 9, slots := #[.int (-30)], vm := .none },
  { cls := 9, slots := #[.int (-29)], vm := .none },
  { cls := 9, slots := #[.int (-28)], vm := .none },
  { cls := 9, slots := #[.int (-27)], vm := .none },
  { cls := 9, slots := #[.int (-26)], vm := .none },
  { cls := 9, slots := #[.int (-25)], vm := .none },
  { cls := 9, slots := #[.int (-24)], vm := .none },
  { cls := 9, slots := #[.int (-23)], vm := .none },
  { cls := 9, slots := #[.int (-22)], vm := .none },
  { cls := 9, slots := #[.int (-21)], vm := .none },
  { cls := 9, slots := #[.int (-20)], vm := .none },
  { cls := 9, slots := #[.int (-19)], vm := .none },
  { cls := 9, slots := #[.int (-18)], vm := .none },
  { cls := 9, slots := #[.int (-17)], vm := .none },
  { cls := 9, slots := #[.int (-16)], vm := .none },
  { cls := 9, slots := #[.int (-15)], vm := .none },
  { cls := 9, slots := #[.int (-14)], vm := .none },
  { cls := 9, slots := #[.int (-13)], vm := .none },
  { cls := 9, slots := #[.int (-12)], vm := .none },
  { cls := 9, slots := #[.int (-11)], vm := .none },
  { cls := 9, slots := #[.int (-10)], vm := .none },
  { cls := 9, slots := #[.int (-9)], vm := .none },
  { cls := 9, slots := #[.int (-8)], vm := .none },
  { cls := 9, slots := #[.int (-7)], vm := .none },
  { cls := 9, slots := #[.int (-6)], vm := .none },
  { cls := 9, slots := #[.int (-5)], vm := .none },
  { cls := 9, slots := #[.int (-4)], vm := .none },
  { cls := 9, slots := #[.int (-3)], vm := .none },
  { cls := 9, slots := #[.int (-2)], vm := .none },
  { cls := 9, slots := #[.int (-1)], vm := .none },
  { cls := 9, slots := #[.int (0)], vm := .none },
  { cls := 9, slots := #[.int (1)], vm := .none },
  { cls := 9, slots := #[.int (2)], vm := .none },
  { cls := 9, slots := #[.int (3)], vm := .none },
  { cls := 9, slots := #[.int (4)], vm := .none },
  { cls := 9, slots := #[.int (5)], vm := .none },
  { cls := 9, slots := #[.int (6)], vm := .none },
  { cls := 9, slots := #[.int (7)], vm := .none },
  { cls := 9, slots := #[.int (8)], vm := .none },
  { cls := 9, slots := #[.int (9)], vm := .none },
  { cls := 9, slots := #[.int (10)], vm := .none },
  { cls := 9, slots := #[.int (11)], vm := .none },
  { cls := 9, slots := #[.int (12)], vm := .none },
  { cls := 9, slots := #[.int (13)], vm := .none },
  { cls := 9, slots := #[.int (14)], vm := .none },
  { cls := 9, slots := #[.int (15)], vm := .none },
  { cls := 9, slots := #[.int (16)], vm := .none },
  { cls := 9, slots := #[.int (17)], vm := .none },
  { cls := 9, slots := #[.int (18)], vm := .none },
  { cls := 9, slots := #[.int (19)], vm := .none },
  { cls := 9, slots := #[.int (20)], vm := .none },
  { cls := 9, slots := #[.int (21)], vm := .none },
  { cls := 9, slots := #[.int (22)], vm := .none },
  { cls := 9, slots := #[.int (23)], vm := .none },
  { cls := 9, slots := #[.int (24)], vm := .none },
  { cls := 9, slots := #[.int (25)], vm := .none },
  { cls := 9, slots := #[.int (26)], vm := .none },
  { cls := 9, slots := #[.int (27)], vm := .none },
  { cls := 9, slots := #[.int (28)], vm := .none },
  { cls := 9, slots := #[.int (29)], vm := .none },
  { cls := 9, slots := #[.int (30)], vm := .none },
  { cls := 9, slots := #[.int (31)], vm := .none },
  { cls := 9, slots := #[.int (32)], vm := .none },
  { cls := 9, slots := #[.int (33)], vm := .none },
  { cls := 9, slots := #[.int (34)], vm := .none },
  { cls := 9, slots := #[.int (35)], vm := .none },
  { cls := 9, slots := #[.int (36)], vm := .none },
  { cls := 9, slots := #[.int (37)], vm := .none },
  { cls := 9, slots := #[.int (38)], vm := .none },
  { cls := 9, slots := #[.int (39)], vm := .none },
  { cls := 9, slots := #[.int (40)], vm := .none },
  { cls := 9, slots := #[.int (41)], vm := .none },
  { cls := 9, slots := #[.int (42)], vm := .none },
  { cls := 9, slots := #[.int (43)], vm := .none },
  { cls := 9, slots := #[.int (44)], vm := .none },
  { cls := 9, slots := #[.int (45)], vm := .none },
  { cls := 9, slots := #[.int (46)], vm := .none },
  { cls := 9, slots := #[.int (47)], vm := .none },
  { cls := 9, slots := #[.int (48)], vm := .none },
  { cls := 9, slots := #[.int (49)], vm := .none },
  { cls := 9, slots := #[.int (50)], vm := .none },
  { cls := 9, slots := #[.int (51)], vm := .none },
  { cls := 9, slots := #[.int (52)], vm := .none },
  { cls := 9, slots := #[.int (53)], vm := .none },
  { cls := 9, slots := #[.int (54)], vm := .none },
  { cls := 9, slots := #[.int (55)], vm := .none },
  { cls := 9, slots := #[.int (56)], vm := .none },
  { cls := 9, slots := #[.int (57)], vm := .none },
  { cls := 9, slots := #[.int (58)], vm := .none },
  { cls := 9, slots := #[.int (59)], vm := .none },
  { cls := 9, slots := #[.int (60)], vm := .none },
  { cls := 9, slots := #[.int (61)], vm := .none },
  { cls := 9, slots := #[.int (62)], vm := .none },
  { cls := 9, slots := #[.int (63)], vm := .none },
  { cls := 9, slots := #[.int (64)], vm := .none },
  { cls := 9, slots := #[.int (65)], vm := .none },
  { cls := 9, slots := #[.int (66)], vm := .none },
  { cls := 9, slots := #[.int (67)], vm := .none },
  { cls := 9, slots := #[.int (68)], vm := .none },
  { cls := 9, slots := #[.int (69)], vm := .none },
  { cls := 9, slots := #[.int (70)], vm := .none },
  { cls := 9, slots := #[.int (71)], vm := .none },
  { cls := 9, slots := #[.int (72)], vm := .none },
  { cls := 9, slots := #[.int (73)], vm := .none },
  { cls := 9, slots := #[.int (74)], vm := .none },
  { cls := 9, slots := #[.int (75)], vm := .none },
  { cls := 9, slots := #[.int (76)], vm := .none },
  { cls := 9, slots := #[.int (77)], vm := .none },
  { cls := 9, slots := #[.int (78)], vm := .none },
  { cls := 9, slots := #[.int (79)], vm := .none },
  { cls := 9, slots := #[.int (80)], vm := .none },
  { cls := 9, slots := #[.int (81)], vm := .none },
  { cls := 9, slots := #[.int (82)], vm := .none },
  { cls := 9, slots := #[.int (83)], vm := .none },
  { cls := 9, slots := #[.int (84)], vm := .none },
  { cls := 9, slots := #[.int (85)], vm := .none },
  { cls := 9, slots := #[.int (86)], vm := .none },
  { cls := 9, slots := #[.int (87)], vm := .none },
  { cls := 9, slots := #[.int (88)], vm := .none },
  { cls := 9, slots := #[.int (89)], vm := .none },
  { cls := 9, slots := #[.int (90)], vm := .none },
  { cls := 9, slots := #[.int (91)], vm := .none },
  { cls := 9, slots := #[.int (92)], vm := .none },
  { cls := 9, slots := #[.int (93)], vm := .none },
  { cls := 9, slots := #[.int (94)], vm := .none },
  { cls := 9, slots := #[.int (95)], vm := .none },
  { cls := 9, slots := #[.int (96)], vm := .none },
  { cls := 9, slots := #[.int (97)], vm := .none },
  { cls := 9, slots := #[.int (98)], vm := .none },
  { cls := 9, slots := #[.int (99)], vm := .none },
  { cls := 9, slots := #[.int (100)], vm := .none },
  { cls := 9, slots := #[.int (101)], vm := .none },
  { cls := 9, slots := #[.int (102)], vm := .none },
  { cls := 9, slots := #[.int (103)], vm := .none },
  { cls := 9, slots := #[.int (104)], vm := .none },
  { cls := 9, slots := #[.int (105)], vm := .none },
  { cls := 9, slots := #[.int (106)], vm := .none },
  { cls := 9, slots := #[.int (107)], vm := .none },
  { cls := 9, slots := #[.int (108)], vm := .none },
  { cls := 9, slots := #[.int (109)], vm := .none },
  { cls := 9, slots := #[.int (110)], vm := .none },
  { cls := 9, slots := #[.int (111)], vm := .none },
  { cls := 9, slots := #[.int (112)], vm := .none },
  { cls := 9, slots := #[.int (113)], vm := .none },
  { cls := 9, slots := #[.int (114)], vm := .none },
  { cls := 9, slots := #[.int (115)], vm := .none },
  { cls := 9, slots := #[.int (116)], vm := .none },
  { cls := 9, slots := #[.int (117)], vm := .none },
  { cls := 9, slots := #[.int (118)], vm := .none },
  { cls := 9, slots := #[.int (119)], vm := .none },
  { cls := 9, slots := #[.int (120)], vm := .none },
  { cls := 9, slots := #[.int (121)], vm := .none },
  { cls := 9, slots := #[.int (122)], vm := .none },
  { cls := 9, slots := #[.int (123)], vm := .none },
  { cls := 9, slots := #[.int (124)], vm := .none },
  { cls := 9, slots := #[.int (125)], vm := .none },
  { cls := 9, slots := #[.int (126)], vm := .none },
  { cls := 9, slots := #[.int (127)], vm := .none }]
def classes : Array Class := #[k0, k1, k2, k3, k4, k5, k6, k7, k8, k9, k10, k11, k12, k13, k14, k15, k16]
def interned : List (Array UInt16 × Addr) := []
def slotsUsed : Nat := 517
def theMethod : MethodId := ⟨1, 1⟩
def args0 : Array Value := #[.int 5, .int 6, .int 7, .int 8, .int 9]
def aboutOver (below : List Frame) : State where
  vm := { classes := classes, interned := interned.toArray }
  heap := heap
  slotsUsed := slotsUsed
  threads := #[{ frames := .invoking theMethod args0 :: below }]
def below0 : List Frame := [.native { method := ⟨0, 0⟩, args := #[] }]
def about1 : State := aboutOver below0
def p0 : Program := .bare "" "" ""
def e0 : Env := launch0.env 0 0 0
theorem w_frames : about1.frames = Frame.invoking theMethod args0 :: below0 := rfl
set_option maxRecDepth 65536 in
theorem w_args : argsFit about1.vm theMethod args0 = true := by decide +kernel
set_option maxRecDepth 65536 in
theorem w_heap : heapFits about1 = true := by decide +kernel
set_option maxRecDepth 65536 in
theorem w_runnable : about1.curStatus? = some .runnable := by decide +kernel
set_option maxRecDepth 65536 in
theorem w_alone : about1.alone = true := by decide +kernel
set_option maxRecDepth 65536 in
theorem w_named : about1.methodNamed? x = some theMethod := by decide +kernel
set_option maxRecDepth 65536 in
theorem w_hears : about1.hears theMethod below0 = true := by decide +kernel
set_option maxRecDepth 65536 in
theorem w_ripe : about1.ripe theMethod args0 below0 = true := by decide +kernel
theorem w_running : about1.status = .running := rfl
set_option maxRecDepth 65536 in
theorem w_room : about1.hasRoom e0.platform room_1 = true :=
  launch0.hasRoom_least _ room_1 (by decide +kernel) (by decide +kernel) (by decide +kernel) (by decide +kernel) (by decide +kernel) (by decide +kernel)
theorem allAtoms_all (ts : List Jvm.Cond) (a : Array Jvm.Value) (st : Jvm.State) : (allAtoms ts).before a st = ts.all (fun c => c.before a st) := by
  induction ts with
  | nil => rfl
  | cons c t ih =>
    show (Jvm.Cond.and c (allAtoms t)).before a st = _
    rw [Jvm.Cond.before_and, ih, List.all_cons]
def words1 : List Jvm.Cond := Jvm.Cond.code x code maxLocals ret :: tables_1
/-- a 'code' word, met by the world's own term for the bytes: nothing is compared byte by byte -/
theorem code_word {y : MethodName} {bytes : ByteArray} {mx : Nat} {rt : Option FieldType} {a : Array Value} {s : State} {m : MethodId} {meth : Method} {c : Code} (h1 : s.methodNamed? y = some m) (h2 : s.vm.method? m = some meth) (h3 : meth.code = some c) (h4 : c.code = bytes)
    (h5 : (c.maxLocals == mx && c.exceptionTable.isEmpty && decide (c.maxStack ≤ mostOperands) && decide (meth.sig.returnType = rt) && !meth.locks && decide (parseMethodDescriptor y.desc = some meth.sig)) = true) : (Jvm.Cond.code y bytes mx rt).before a s = true := by
  simp only [Bool.and_eq_true, beq_iff_eq, Bool.not_eq_true', decide_eq_true_eq] at h5
  obtain ⟨⟨⟨⟨⟨g1, g2⟩, g3⟩, g4⟩, g5⟩, g6⟩ := h5
  simp [Cond.before, Cond.holds, Cond.value, h1, h2, h3, h4, g1, g2, g3, g4, g5, g6]
def isCode : Jvm.Cond → Bool
  | .code _ _ _ _ => true
  | _ => false
theorem all_split {L : List Jvm.Cond} {P : Jvm.Cond → Bool} (h1 : L.all (fun c => isCode c || P c) = true) (h2 : ∀ c ∈ L.filter isCode, P c = true) : L.all P = true := by
  refine List.all_eq_true.mpr fun c hc => ?_
  have h := List.all_eq_true.mp h1 c hc
  rcases Bool.eq_false_or_eq_true (isCode c) with hi | hi
  · exact h2 c (List.mem_filter.mpr ⟨hc, hi⟩)
  · simpa [hi] using h
set_option maxRecDepth 65536 in
theorem w_c0 : (Jvm.Cond.code x code maxLocals ret).before args0 about1 = true := code_word (m := ⟨1, 1⟩) (meth := k1m1) (c := k1c1) (by decide +kernel) rfl rfl rfl (by decide +kernel)
set_option maxRecDepth 65536 in
theorem w_c1 : (Jvm.Cond.code ({ cls := "com/example/tackboard/tackboard/core/Pin", name := "<init>", desc := "(II)V" } : Jvm.MethodName) prog_30_method_1_code (3 : Nat) (Option.none : Option Jvm.ClassFile.FieldType)).before args0 about1 = true := code_word (m := ⟨4, 0⟩) (meth := k4m0) (c := k4c0) (by decide +kernel) rfl rfl rfl (by decide +kernel)
set_option maxRecDepth 65536 in
theorem w_c2 : (Jvm.Cond.code ({ cls := "java/lang/Record", name := "<init>", desc := "()V" } : Jvm.MethodName) jdk_30_method_1_code (1 : Nat) (Option.none : Option Jvm.ClassFile.FieldType)).before args0 about1 = true := code_word (m := ⟨2, 0⟩) (meth := k2m0) (c := k2c0) (by decide +kernel) rfl rfl rfl (by decide +kernel)
set_option maxRecDepth 65536 in
theorem w_c3 : (Jvm.Cond.code ({ cls := "java/lang/Object", name := "<init>", desc := "()V" } : Jvm.MethodName) object_method_1_code (1 : Nat) (Option.none : Option Jvm.ClassFile.FieldType)).before args0 about1 = true := code_word (m := ⟨0, 0⟩) (meth := k0m0) (c := k0c0) (by decide +kernel) rfl rfl rfl (by decide +kernel)
set_option maxRecDepth 65536 in
theorem w_c4 : (Jvm.Cond.code ({ cls := "java/lang/Integer", name := "valueOf", desc := "(I)Ljava/lang/Integer;" } : Jvm.MethodName) jdk_33_method_22_code (1 : Nat) (Option.some (Jvm.ClassFile.FieldType.object "java/lang/Integer"))).before args0 about1 = true := code_word (m := ⟨9, 0⟩) (meth := k9m0) (c := k9c0) (by decide +kernel) rfl rfl rfl (by decide +kernel)
set_option maxRecDepth 65536 in
theorem w_c5 : (Jvm.Cond.code ({ cls := "com/example/tackboard/tackboard/core/Pin", name := "equals", desc := "(Ljava/lang/Object;)Z" } : Jvm.MethodName) prog_30_method_3_code (3 : Nat) (Option.some Jvm.ClassFile.FieldType.boolean)).before args0 about1 = true := code_word (m := ⟨4, 2⟩) (meth := k4m2) (c := k4c2) (by decide +kernel) rfl rfl rfl (by decide +kernel)
set_option maxRecDepth 65536 in
theorem w_c6 : (Jvm.Cond.code ({ cls := "com/example/tackboard/tackboard/core/Pin", name := "compareTo", desc := "(Lcom/example/tackboard/tackboard/core/Pin;)I" } : Jvm.MethodName) prog_30_method_4_code (2 : Nat) (Option.some Jvm.ClassFile.FieldType.int)).before args0 about1 = true := code_word (m := ⟨4, 3⟩) (meth := k4m3) (c := k4c3) (by decide +kernel) rfl rfl rfl (by decide +kernel)
set_option maxRecDepth 65536 in
theorem w_c7 : (Jvm.Cond.code ({ cls := "java/lang/Integer", name := "compare", desc := "(II)I" } : Jvm.MethodName) jdk_33_method_40_code (2 : Nat) (Option.some Jvm.ClassFile.FieldType.int)).before args0 about1 = true := code_word (m := ⟨9, 2⟩) (meth := k9m2) (c := k9c2) (by decide +kernel) rfl rfl rfl (by decide +kernel)
set_option maxRecDepth 65536 in
theorem w_c8 : (Jvm.Cond.code ({ cls := "com/example/tackboard/tackboard/core/Pin", name := "hashCode", desc := "()I" } : Jvm.MethodName) prog_30_method_2_code (2 : Nat) (Option.some Jvm.ClassFile.FieldType.int)).before args0 about1 = true := code_word (m := ⟨4, 1⟩) (meth := k4m1) (c := k4c1) (by decide +kernel) rfl rfl rfl (by decide +kernel)
set_option maxRecDepth 65536 in
theorem w_c9 : (Jvm.Cond.code ({ cls := "java/lang/Integer", name := "<init>", desc := "(I)V" } : Jvm.MethodName) jdk_33_method_23_code (2 : Nat) (Option.none : Option Jvm.ClassFile.FieldType)).before args0 about1 = true := code_word (m := ⟨9, 1⟩) (meth := k9m1) (c := k9c1) (by decide +kernel) rfl rfl rfl (by decide +kernel)
set_option maxRecDepth 65536 in
theorem w_c10 : (Jvm.Cond.code ({ cls := "java/lang/Number", name := "<init>", desc := "()V" } : Jvm.MethodName) jdk_18_method_1_code (1 : Nat) (Option.none : Option Jvm.ClassFile.FieldType)).before args0 about1 = true := code_word (m := ⟨6, 0⟩) (meth := k6m0) (c := k6c0) (by decide +kernel) rfl rfl rfl (by decide +kernel)
def codes1 : List Jvm.Cond := [Jvm.Cond.code x code maxLocals ret, Jvm.Cond.code ({ cls := "com/example/tackboard/tackboard/core/Pin", name := "<init>", desc := "(II)V" } : Jvm.MethodName) prog_30_method_1_code (3 : Nat) (Option.none : Option Jvm.ClassFile.FieldType), Jvm.Cond.code ({ cls := "java/lang/Record", name := "<init>", desc := "()V" } : Jvm.MethodName) jdk_30_method_1_code (1 : Nat) (Option.none : Option Jvm.ClassFile.FieldType), Jvm.Cond.code ({ cls := "java/lang/Object", name := "<init>", desc := "()V" } : Jvm.MethodName) object_method_1_code (1 : Nat) (Option.none : Option Jvm.ClassFile.FieldType), Jvm.Cond.code ({ cls := "java/lang/Integer", name := "valueOf", desc := "(I)Ljava/lang/Integer;" } : Jvm.MethodName) jdk_33_method_22_code (1 : Nat) (Option.some (Jvm.ClassFile.FieldType.object "java/lang/Integer")), Jvm.Cond.code ({ cls := "com/example/tackboard/tackboard/core/Pin", name := "equals", desc := "(Ljava/lang/Object;)Z" } : Jvm.MethodName) prog_30_method_3_code (3 : Nat) (Option.some Jvm.ClassFile.FieldType.boolean), Jvm.Cond.code ({ cls := "com/example/tackboard/tackboard/core/Pin", name := "compareTo", desc := "(Lcom/example/tackboard/tackboard/core/Pin;)I" } : Jvm.MethodName) prog_30_method_4_code (2 : Nat) (Option.some Jvm.ClassFile.FieldType.int), Jvm.Cond.code ({ cls := "java/lang/Integer", name := "compare", desc := "(II)I" } : Jvm.MethodName) jdk_33_method_40_code (2 : Nat) (Option.some Jvm.ClassFile.FieldType.int), Jvm.Cond.code ({ cls := "com/example/tackboard/tackboard/core/Pin", name := "hashCode", desc := "()I" } : Jvm.MethodName) prog_30_method_2_code (2 : Nat) (Option.some Jvm.ClassFile.FieldType.int), Jvm.Cond.code ({ cls := "java/lang/Integer", name := "<init>", desc := "(I)V" } : Jvm.MethodName) jdk_33_method_23_code (2 : Nat) (Option.none : Option Jvm.ClassFile.FieldType), Jvm.Cond.code ({ cls := "java/lang/Number", name := "<init>", desc := "()V" } : Jvm.MethodName) jdk_18_method_1_code (1 : Nat) (Option.none : Option Jvm.ClassFile.FieldType)]
set_option maxRecDepth 65536 in
theorem codes_eq : words1.filter isCode = codes1 := rfl
theorem w_codes : ∀ c ∈ words1.filter isCode, c.before args0 about1 = true := by
  rw [codes_eq]
  intro c hc
  simp only [codes1, List.mem_cons, List.not_mem_nil, or_false] at hc
  rcases hc with rfl | rfl | rfl | rfl | rfl | rfl | rfl | rfl | rfl | rfl | rfl
  · exact w_c0
  · exact w_c1
  · exact w_c2
  · exact w_c3
  · exact w_c4
  · exact w_c5
  · exact w_c6
  · exact w_c7
  · exact w_c8
  · exact w_c9
  · exact w_c10
set_option maxRecDepth 65536 in
theorem w_t1 : (words1.take 24).all (fun c => isCode c || c.before args0 about1) = true := by decide +kernel
set_option maxRecDepth 65536 in
theorem w_t2 : ((words1.drop 24).take 24).all (fun c => isCode c || c.before args0 about1) = true := by decide +kernel
set_option maxRecDepth 65536 in
theorem w_t3 : ((words1.drop 24).drop 24).all (fun c => isCode c || c.before args0 about1) = true := by decide +kernel
theorem w_tables : (allAtoms (Jvm.Cond.code x code maxLocals ret :: tables_1)).before args0 about1 = true := by
  rw [allAtoms_all]
  show words1.all (fun c => c.before args0 about1) = true
  refine all_split ?_ w_codes
  rw [← List.take_append_drop 24 words1, List.all_append, w_t1, ← List.take_append_drop 24 (words1.drop 24), List.all_append, w_t2, w_t3]
  rfl
set_option maxRecDepth 65536 in
theorem w_rest : rest_1_c.before args0 about1 = true := by decide +kernel
set_option maxRecDepth 65536 in
theorem w_case : (Jvm.Cond.and given_1 narrow_1).before args0 about1 = true := by decide +kernel
theorem w_applies : (headSpec (Jvm.Cond.code x code maxLocals ret :: tables_1) room_1).applies x e0.platform about1 = true :=
  (Spec.applies_iff w_frames).mpr ⟨w_running, w_runnable, w_alone, w_named, w_hears, w_ripe, w_room, w_tables⟩
theorem atStart : AtStart classFile x code maxLocals ret World_1 tables_1 room_1 Calls_1 rest_1 Pre_1 launch0 p0 e0 about1 theMethod args0 below0 :=
  ⟨lists_1, trivial, launch0.admits_env _ _ _, launch0.least_env, fairChoices_fair.cas, fairChoices_fair.clock, w_frames, w_args, w_heap, w_applies, trivial, w_rest, w_case⟩
end start1
theorem witness_1 : WitnessClaimed_1 := ⟨start1.p0, start1.e0, start1.about1, start1.theMethod, start1.args0, start1.below0, start1.atStart⟩
end Jvm.Pilot.@@N@@
