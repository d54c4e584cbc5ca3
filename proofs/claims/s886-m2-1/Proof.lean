import JvmDerived
import JvmDerived.Pilot.@@N@@Statement
import JvmDerived.Pilot.@@N@@Code
set_option linter.unusedVariables false
set_option linter.unusedSimpArgs false
namespace Jvm.RoadKit
open Sem ClassFile Op Lib Jvm.Stand Jvm.Free Jvm.LawKit
section New
variable {p : Program} {l : Launch} {e : Env} {R : Room} {s : State} {m : MethodId} {args : Array Value} {below : List Frame} {meth : Method} {c : Code} {T : State} {locs : List Loc} {cells slots : Nat}
theorem retI (X : Stand p l e R s m args below meth c T locs cells slots) (hx : p.tables.exec = Jvm.exec) {pc : Nat} {Ls : Array Slot} {z : Int32} {rest : List Value} (hret : meth.sig.returnType = some .int) (hd : decode c.code pc = .ok (.ireturn, 1)) {fs : List Frame}
    (hl : ∀ (f : JFrame) (acts : List Action), f.method = m → f.locked = none → f.entered = [] → (doReturn e (T.setTop f) acts (some (.int z))).1 = T.setFrames fs) : Steps p.tables e below (T.setTop (mkF m pc Ls (.int z :: rest))) (T.setFrames fs) := by
  have hm' : T.vm.method? m = some meth := X.method'
  have hn : narrow .int (.int z) = .int z := rfl
  show Steps p.tables e below (T.setTop { method := m, pc := pc, locals := Ls, stack := _ :: rest, locked := none }) _
  jvm_step X.here [X.here.top, hx, hd, hm', hret, hn]
  first | (intro acts; rw [hl _ acts rfl rfl rfl]) | rw [hl _ _ rfl rfl rfl]
  exact Steps.refl _
end New
end Jvm.RoadKit
namespace Jvm.Pilot.@@N@@
open Jvm Jvm.ClassFile Sem Op Lib Jvm.Free Jvm.Stand Jvm.LawKit Jvm.RoadKit Bundle Jvm.Pilot.@@N@@.Jvm.D
theorem ow {Z : State} {a0 : Array Value} (hw : ∀ d ∈ tables_1, d.before a0 Z = true) (i : Nat) {d : Jvm.Cond} (h : tables_1[i]? = some d) : d.before a0 Z = true := hw _ (List.mem_of_getElem? h)
def own_b (P : Prop) [Decidable P] : Int32 := if P then 1 else 0
theorem own_b_t {P : Prop} [Decidable P] (h : P) : own_b P = 1 := if_pos h
theorem own_b_f {P : Prop} [Decidable P] (h : ¬ P) : own_b P = 0 := if_neg h
theorem own_b_nz {P : Prop} [Decidable P] (h : P) : ¬ (own_b P = (0 : Int32)) := by rw [own_b_t h]; decide
theorem own_b_nar (P : Prop) [Decidable P] : nar .boolean (own_b P) = own_b P := by
  by_cases h : P
  · rw [own_b_t h]; rfl
  · rw [own_b_f h]; rfl
theorem own_sel {Z s : State} {a0 args : Array Value} {y : MethodName} {n : Nat} (hZ : Z.Warmed39 s.vm) (wi : (Jvm.Cond.instantiable y.cls n).before a0 Z = true) (wp : (Jvm.Cond.privateMethod y).before a0 Z = true) (wm : (Jvm.Cond.instanceMethod y).before a0 Z = true) (hy : y.cls ≠ "java/lang/invoke/MethodHandle" ∧ y.cls ≠ "java/lang/invoke/VarHandle") : (Jvm.Cond.selects y.cls y y).before args s = true := by
  have wi' : (Jvm.Cond.instantiable y.cls n).before args s = true := mvT hZ wi
  obtain ⟨c, k, h1, h2, h3, h4, -⟩ := Cond.instantiable_spec wi'
  have h5 : k.isInterface = false := by
    cases hq : k.isInterface with
    | false => rfl
    | true => rw [hq] at h4; simp at h4
  exact Jvm.Stand.selects_self_of_private h1 h2 h5 (Cond.privateMethod_at (mvP hZ wp (args := args))) (mvT hZ wm) hy
theorem own_nf {s : State} {args : Array Value} {C : String} {y y' : MethodName} (w : (Jvm.Cond.selects C y' y').before args s = true) (e : y'.cls = y.cls) : NotFace s y := fun r0 h0 => by
  obtain ⟨c2, r2, m2, q1, q2, q3, q4, kP, hkP, hkPi⟩ := Cond.selects_spec w
  have h1 := findClass_of_methodNamed h0
  have h2 := findClass_of_methodNamed q3
  rw [e] at h2
  have h3 := Option.some.inj (h1.symm.trans h2)
  exact ⟨kP, by rw [h3]; exact hkP, hkPi⟩
theorem own_selN {Z s : State} {a0 args : Array Value} {y : MethodName} (hZ : Z.Warmed39 s.vm) (nf : NotFace s y) (wp : (Jvm.Cond.privateMethod y).before a0 Z = true) (wm : (Jvm.Cond.instanceMethod y).before a0 Z = true) (hy : y.cls ≠ "java/lang/invoke/MethodHandle" ∧ y.cls ≠ "java/lang/invoke/VarHandle") : (Jvm.Cond.selects y.cls y y).before args s = true := by
  have wm' : (Jvm.Cond.instanceMethod y).before args s = true := mvT hZ wm
  obtain ⟨mk, methM, hnamed, -⟩ := Cond.instanceMethod_spec wm'
  obtain ⟨k, hk, hki⟩ := nf mk hnamed
  exact Jvm.Stand.selects_self_of_private (findClass_of_methodNamed hnamed) hk hki (Cond.privateMethod_at (mvP hZ wp (args := args))) wm' hy
theorem own_b01 (P : Prop) [Decidable P] : own_b P = (0 : Int32) ∨ own_b P = (1 : Int32) := by
  by_cases h : P
  · exact Or.inr (own_b_t h)
  · exact Or.inl (own_b_f h)
theorem own_b_iff {P : Prop} [Decidable P] : own_b P = (0 : Int32) ↔ ¬ P := ⟨fun q h => own_b_nz h q, own_b_f⟩
abbrev oE : String := "com/example/portunus/portunus/admission/LastEvents"
theorem own_eqI {args : Array Value} {first s : State} {o : Option Outcome} {idx : List Nat} {a : Term} {n : Int32} (h : (Jvm.Cond.eq a (Term.int n)).value args first o s idx = some true) : a.eval args first o idx s = some (.int n) := by
  obtain ⟨x, y, ha, hb, k1, k2⟩ := cmp_v (Or.inl h)
  obtain rfl : y = .int n := (Option.some.inj ((Term.int_eval n).symm.trans hb)).symm
  obtain ⟨z, rfl⟩ := k2
  have q := gotT (Cond.eq_ints ha (Term.int_eval n)) h
  rw [ha, q]
theorem own_ne {s : State} {a b : Addr} {C n d : String} {x y : Int32} (h1 : s.fieldOf? a C n d = some (.int x)) (h2 : s.fieldOf? b C n d = some (.int y)) (h : x ≠ y) : a ≠ b := fun q => by
  subst q
  exact h (Value.int.inj (Option.some.inj (h1.symm.trans h2)))
theorem own_wi {p : Int32} (h0 : ¬ (p < (0 : Int32))) (h6 : ¬ ((63 : Int32) < p)) : (p >>> ((6 : Int32) &&& 31)) = (0 : Int32) := by
  have h := c_ishr p 6 6 (by decide)
  have e0 : (0 : Int32).toInt = 0 := by decide
  have e6 : (63 : Int32).toInt = 63 := by decide
  rw [Int32.lt_iff_toInt_lt] at h0 h6
  refine Int32.toInt_inj.mp ?_
  rw [h, e0]
  omega
theorem own_w1 {wi : Int32} (h : wi = (0 : Int32) ∨ wi = (1 : Int32)) (q : (0 : Int32) < wi) : wi = (1 : Int32) := by
  rcases h with rfl | rfl
  · exact absurd q (by decide)
  · rfl
theorem own_w1' {wi : Int32} (h : wi = (0 : Int32) ∨ wi = (1 : Int32)) (q : ¬ (wi < (1 : Int32))) : (1 : Int32) = wi := by
  rcases h with rfl | rfl
  · exact absurd (by decide) q
  · rfl
theorem own_snz {sz : Int32} (h : ¬ (sz < (1 : Int32))) : (sz.toInt64) ≠ 0 := fun q => by
  have h1 := c_i2l sz
  rw [q] at h1
  have e0 : (0 : Int64).toInt = 0 := by decide
  have e1 : (1 : Int32).toInt = 1 := by decide
  rw [Int32.lt_iff_toInt_lt] at h
  omega
theorem own_ix {sz : Int32} {t : Int64} (h : ¬ (sz < (1 : Int32))) (h0 : ¬ (t < (0 : Int64))) (h6 : ¬ ((6 : Int64) < t)) : ¬ (((t - (t / (sz.toInt64)) * (sz.toInt64)).toInt32) < (0 : Int32)) ∧ ¬ ((63 : Int32) < ((t - (t / (sz.toInt64)) * (sz.toInt64)).toInt32)) := by
  rw [lrem_mod]
  have h1 := c_i2l sz
  have e0 : (0 : Int64).toInt = 0 := by decide
  have e6 : (6 : Int64).toInt = 6 := by decide
  have i0 : (0 : Int32).toInt = 0 := by decide
  have i1 : (1 : Int32).toInt = 1 := by decide
  have i63 : (63 : Int32).toInt = 63 := by decide
  rw [Int32.lt_iff_toInt_lt] at h
  rw [Int64.lt_iff_toInt_lt] at h0 h6
  have hm : (t % sz.toInt64).toInt = t.toInt % sz.toInt64.toInt := by rw [Int64.toInt_mod]; exact (tr _ _).1 (by omega)
  have hl := c_l2i (t % sz.toInt64)
  have rl := rng32 (t % sz.toInt64).toInt32
  have m1 := Int.emod_nonneg t.toInt (b := sz.toInt64.toInt) (by omega)
  have m2 := Int.emod_lt_of_pos t.toInt (b := sz.toInt64.toInt) (by omega)
  have m3 : t.toInt % sz.toInt64.toInt ≤ t.toInt := by
    by_cases q : t.toInt < sz.toInt64.toInt
    · rw [Int.emod_eq_of_lt (by omega) q]; exact Int.le_refl _
    · omega
  rw [Int32.lt_iff_toInt_lt, Int32.lt_iff_toInt_lt]
  omega
theorem own_sz1 {x sz : Int32} (h : sz = ((1 : Int32) + (x &&& (7 : Int32)))) : ¬ (sz < (1 : Int32)) := by
  have h1 := c_mask x 7 3 (by decide) (by decide)
  have h2 := c_iadd 1 (x &&& 7)
  have r := rng32 (1 + (x &&& 7))
  rw [← h] at h2 r
  have i1 : (1 : Int32).toInt = 1 := by decide
  rw [Int32.lt_iff_toInt_lt]
  omega
theorem own_sz2 {x sz : Int32} (h : sz = (if (1 : Int32) < x then x else (1 : Int32))) : ¬ (sz < (1 : Int32)) := by
  have i1 : (1 : Int32).toInt = 1 := by decide
  by_cases q : (1 : Int32) < x
  · rw [if_pos q] at h; subst h
    rw [Int32.lt_iff_toInt_lt] at *; omega
  · rw [if_neg q] at h; subst h; decide
theorem own_no {a b k : Int32} (h : ¬ (a < k)) (q : ¬ (b < a)) : ¬ (b < k) := by
  rw [Int32.lt_iff_toInt_lt] at *; omega
theorem own_kr {x k : Int32} (h : k = (x &&& (7 : Int32))) : 0 ≤ k.toInt ∧ k.toInt ≤ 7 := by
  have h1 := c_mask x 7 3 (by decide) (by decide)
  rw [← h] at h1
  omega
theorem own_k0 {x k : Int32} (h : k = (x &&& (7 : Int32))) : (-1 : Int32) < k := by
  have q := own_kr h
  have e : (-1 : Int32).toInt = -1 := by decide
  rw [Int32.lt_iff_toInt_lt]; omega
theorem own_k7 {x k : Int32} (h : k = (x &&& (7 : Int32))) : ¬ ((7 : Int32) < k) := by
  have q := own_kr h
  have e : (7 : Int32).toInt = 7 := by decide
  rw [Int32.lt_iff_toInt_lt]; omega
theorem own_eqk {a b k : Int32} (n : Int) (h1 : a < k) (h2 : ¬ (b < k)) (ha : a.toInt = n - 1) (hb : b.toInt = n) : k.toInt = n := by
  rw [Int32.lt_iff_toInt_lt] at *; omega
theorem own_fin {t : Int64} {sz k : Int32} (n : Int) (hs : ¬ (sz < (1 : Int32))) (ht : t.toInt = n) (hk : k.toInt = n) : own_b (¬ (t < (sz.toInt64))) = own_b (¬ (k < sz)) := by
  have h1 := c_i2l sz
  have q : t < sz.toInt64 ↔ k < sz := by
    rw [Int32.lt_iff_toInt_lt, Int64.lt_iff_toInt_lt]; omega
  by_cases z : k < sz
  · have a1 : ¬ ¬ (t < sz.toInt64) := fun u => u (q.mpr z)
    have a2 : ¬ ¬ (k < sz) := fun u => u z
    rw [own_b_f a1, own_b_f a2]
  · have a1 : ¬ (t < sz.toInt64) := fun u => z (q.mp u)
    rw [own_b_t a1, own_b_t z]
theorem d1_0 : decode jdk_29_method_65_code 0 = .ok (.iload_n 0, 1) := by decide +kernel
theorem d1_1 : decode jdk_29_method_65_code 1 = .ok (.iload_n 1, 1) := by decide +kernel
theorem d1_2 : decode jdk_29_method_65_code 2 = .ok (.if_icmp .lt 7, 3) := by decide +kernel
theorem d1_9 : decode jdk_29_method_65_code 9 = .ok (.iload_n 1, 1) := by decide +kernel
theorem d1_10 : decode jdk_29_method_65_code 10 = .ok (.ireturn, 1) := by decide +kernel
theorem d1_5 : decode jdk_29_method_65_code 5 = .ok (.iload_n 0, 1) := by decide +kernel
theorem d1_6 : decode jdk_29_method_65_code 6 = .ok (.goto 4, 3) := by decide +kernel
theorem ef1 (m : MethodId) (p0 : Int32) (p1 : Int32) : entryFrame m #[(.int p0), (.int p1)] 2 = mkF m 0 #[.val (.int p0), .val (.int p1)] [] := by first | (simp [entryFrame, mkF, argsToLocals, Value.category]; done) | rfl
def Q1 (Z : State) (p0 : Int32) (p1 : Int32) (h0 : Heap) (n0 : Nat) (v : Option Value) (h : Heap) (L : List Loc) : Prop := v = some (.int (if p0 < p1 then p1 else p0)) ∧ Fr n0 L ∧ h = h0
set_option maxRecDepth 65536 in
set_option maxHeartbeats 40000000 in
theorem rm1 (l : Launch) (Z : State) (a0 : Array Value) (hw : ∀ d ∈ tables_1, d.before a0 Z = true) (ws : List Jvm.Cond) (p0 : Int32) (p1 : Int32) (h0 : Heap) (n0 : Nat) (Z0 : n0 ≤ h0.size) :
    MetFree l (⟨"java/lang/Math", "max", "(II)I"⟩ : MethodName) (head1 (Jvm.Cond.code (⟨"java/lang/Math", "max", "(II)I"⟩ : MethodName) jdk_29_method_65_code 2 (some .int) :: ws) ({ frames := 0, cells := 0, slots := 0, locals := 0 } : Room)) (fun a U => a = #[(.int p0), (.int p1)] ∧ Z.Warmed39 U.vm ∧ U.heap = h0) (fun _ _ _ _ _ => True) (fun _ U o U' => ∃ v L, o = .returned v ∧ Q1 Z p0 p1 h0 n0 v U'.heap L ∧ FrameEnd U o U' L ({ frames := 0, cells := 0, slots := 0, locals := 0 } : Room).cells ({ frames := 0, cells := 0, slots := 0, locals := 0 } : Room).slots) := by
  refine MetFree.of_bodySF (Jvm.Free.JP.mathPlain rfl (by decide +kernel)) hisR ?_
  intro p e s m args below meth c s₁ Bd hml0 hP hK
  obtain ⟨rfl, hZ, hh⟩ := hP
  have hx := Bd.exec
  have hby := Bd.bytes
  have hml : c.maxLocals = 2 := hml0
  have hown : s.vm.findClass "java/lang/Math" = some m.cls := findClass_of_methodNamed Bd.named
  have hnm := (name_of_methodNamed Bd.named Bd.method).1
  have X0 : Stand p l e ({ frames := 0, cells := 0, slots := 0, locals := 0 } : Room) s m #[(.int p0), (.int p1)] below meth c s₁ [] 0 0 := Stand.of_body Bd
  have e0 : s₁.heap = h0 := by rw [← hh, Bd.state]; rfl
  have N0 := Fr.nil n0
  have pre0 : ∀ tZ, Steps p.tables e below (s₁.setTop (mkF m 0 #[.val (.int p0), .val (.int p1)] [])) tZ → Steps p.tables e below (s₁.setTop (entryFrame m #[(.int p0), (.int p1)] 2)) tZ := fun tZ kZ => castTop (ef1 m p0 p1) kZ
  have pre1 : ∀ tZ, Steps p.tables e below (s₁.setTop (mkF m 2 #[.val (.int p0), .val (.int p1)] [(.int p1), (.int p0)])) tZ → Steps p.tables e below (s₁.setTop (entryFrame m #[(.int p0), (.int p1)] 2)) tZ := fun tZ kZ => pre0 tZ (by
    show Steps p.tables e below (s₁.setTop (mkF m 0 #[.val (.int p0), .val (.int p1)] [])) _
    refine XS.iloadN X0.here hx rfl (hb hby d1_0) rfl  ?_
    show Steps p.tables e below (s₁.setTop (mkF m 1 #[.val (.int p0), .val (.int p1)] [(.int p0)])) _
    refine XS.iloadN X0.here hx rfl (hb hby d1_1) rfl  ?_
    exact kZ)
  by_cases hc2 : p0 < p1
  ·  -- yes
    obtain ⟨fsZ, hrZ, hrun, hended, hW, hsame⟩ := X0.leave (v := some (.int p1)) (fun h => by rw [Bd.returns] at h; cases h)
    refine ⟨_, _, pre1 _ ?_, hrun, hended, _, _, rfl, ?_, ⟨_, rfl⟩, hW, hsame.mono (by decide) (by decide)⟩
    · show Steps p.tables e below (s₁.setTop (mkF m 2 #[.val (.int p0), .val (.int p1)] [(.int p1), (.int p0)])) _
      refine XS.icmpYes X0.here hx rfl (pc0 := 2) (pc' := 9) rfl (hb hby d1_2) rfl (tlt hc2).1 (by decide) (by decide) ?_
      show Steps p.tables e below (s₁.setTop (mkF m 9 #[.val (.int p0), .val (.int p1)] [])) _
      refine XS.iloadN X0.here hx rfl (hb hby d1_9) rfl  ?_
      show Steps p.tables e below (s₁.setTop (mkF m 10 #[.val (.int p0), .val (.int p1)] [(.int p1)])) _
      exact retI X0 hx Bd.returns (hb hby d1_10) hrZ
    · show Q1 Z p0 p1 h0 n0 _ s₁.heap _
      rw [e0]
      exact ⟨(congrArg (fun z => some (Value.int z)) (by first | rfl | (simp only [own_b, if_pos hc2]; done) | (simp only [own_b, eq_true hc2, and_true, true_and, and_false, false_and, or_true, true_or, or_false, false_or, not_true_eq_false, not_false_eq_true, if_true, if_false, reduceIte]; done) | (simp [own_b, hc2]; done))), N0, rfl⟩
  ·  -- no
    obtain ⟨fsZ, hrZ, hrun, hended, hW, hsame⟩ := X0.leave (v := some (.int p0)) (fun h => by rw [Bd.returns] at h; cases h)
    refine ⟨_, _, pre1 _ ?_, hrun, hended, _, _, rfl, ?_, ⟨_, rfl⟩, hW, hsame.mono (by decide) (by decide)⟩
    · show Steps p.tables e below (s₁.setTop (mkF m 2 #[.val (.int p0), .val (.int p1)] [(.int p1), (.int p0)])) _
      refine XS.icmpNo X0.here hx rfl (hb hby d1_2) rfl (flt hc2).1 ?_
      show Steps p.tables e below (s₁.setTop (mkF m 5 #[.val (.int p0), .val (.int p1)] [])) _
      refine XS.iloadN X0.here hx rfl (hb hby d1_5) rfl  ?_
      show Steps p.tables e below (s₁.setTop (mkF m 6 #[.val (.int p0), .val (.int p1)] [(.int p0)])) _
      refine XS.goto X0.here hx rfl (pc0 := 6) (pc' := 10) rfl (hb hby d1_6) (by decide) (by decide) ?_
      show Steps p.tables e below (s₁.setTop (mkF m 10 #[.val (.int p0), .val (.int p1)] [(.int p0)])) _
      exact retI X0 hx Bd.returns (hb hby d1_10) hrZ
    · show Q1 Z p0 p1 h0 n0 _ s₁.heap _
      rw [e0]
      exact ⟨(congrArg (fun z => some (Value.int z)) (by first | rfl | (simp only [own_b, if_neg hc2]; done) | (simp only [own_b, eq_false hc2, and_true, true_and, and_false, false_and, or_true, true_or, or_false, false_or, not_true_eq_false, not_false_eq_true, if_true, if_false, reduceIte]; done) | (simp [own_b, hc2]; done))), N0, rfl⟩
theorem pn0 : plainName "java/util/BitSet" = true := by first | (simp [plainName, overriddenIn]; done) | decide +kernel
theorem d6_0 : decode jdk_92_method_1_code 0 = .ok (.iload_n 0, 1) := by decide +kernel
theorem d6_1 : decode jdk_92_method_1_code 1 = .ok (.bipush 6, 2) := by decide +kernel
theorem d6_3 : decode jdk_92_method_1_code 3 = .ok (.ishr, 1) := by decide +kernel
theorem d6_4 : decode jdk_92_method_1_code 4 = .ok (.ireturn, 1) := by decide +kernel
theorem ef6 (m : MethodId) (p1 : Int32) : entryFrame m #[(.int p1)] 1 = mkF m 0 #[.val (.int p1)] [] := by first | (simp [entryFrame, mkF, argsToLocals, Value.category]; done) | rfl
def Q6 (Z : State) (p1 : Int32) (h0 : Heap) (n0 : Nat) (v : Option Value) (h : Heap) (L : List Loc) : Prop := v = some (.int (0 : Int32)) ∧ Fr n0 L ∧ h = h0
set_option maxRecDepth 65536 in
set_option maxHeartbeats 40000000 in
theorem rm6 (l : Launch) (Z : State) (a0 : Array Value) (hw : ∀ d ∈ tables_1, d.before a0 Z = true) (ws : List Jvm.Cond) (p1 : Int32) (h0 : Heap) (n0 : Nat) (Z0 : n0 ≤ h0.size) (hp0 : ¬ (p1 < (0 : Int32))) (hp6 : ¬ ((63 : Int32) < p1)) :
    MetFree l (⟨"java/util/BitSet", "wordIndex", "(I)I"⟩ : MethodName) (head1 (Jvm.Cond.code (⟨"java/util/BitSet", "wordIndex", "(I)I"⟩ : MethodName) jdk_92_method_1_code 1 (some .int) :: ws) ({ frames := 0, cells := 0, slots := 0, locals := 0 } : Room)) (fun a U => a = #[(.int p1)] ∧ Z.Warmed39 U.vm ∧ U.heap = h0) (fun _ _ _ _ _ => True) (fun _ U o U' => ∃ v L, o = .returned v ∧ Q6 Z p1 h0 n0 v U'.heap L ∧ FrameEnd U o U' L ({ frames := 0, cells := 0, slots := 0, locals := 0 } : Room).cells ({ frames := 0, cells := 0, slots := 0, locals := 0 } : Room).slots) := by
  refine MetFree.of_bodySF (plainFor_of_name pn0) hisR ?_
  intro p e s m args below meth c s₁ Bd hml0 hP hK
  obtain ⟨rfl, hZ, hh⟩ := hP
  have hx := Bd.exec
  have hby := Bd.bytes
  have hml : c.maxLocals = 1 := hml0
  have hown : s.vm.findClass "java/util/BitSet" = some m.cls := findClass_of_methodNamed Bd.named
  have hnm := (name_of_methodNamed Bd.named Bd.method).1
  have X0 : Stand p l e ({ frames := 0, cells := 0, slots := 0, locals := 0 } : Room) s m #[(.int p1)] below meth c s₁ [] 0 0 := Stand.of_body Bd
  have e0 : s₁.heap = h0 := by rw [← hh, Bd.state]; rfl
  have N0 := Fr.nil n0
  have pre0 : ∀ tZ, Steps p.tables e below (s₁.setTop (mkF m 0 #[.val (.int p1)] [])) tZ → Steps p.tables e below (s₁.setTop (entryFrame m #[(.int p1)] 1)) tZ := fun tZ kZ => castTop (ef6 m p1) kZ
  obtain ⟨fsZ, hrZ, hrun, hended, hW, hsame⟩ := X0.leave (v := some (.int (p1 >>> ((6 : Int32) &&& 31)))) (fun h => by rw [Bd.returns] at h; cases h)
  refine ⟨_, _, pre0 _ ?_, hrun, hended, _, _, rfl, ?_, ⟨_, rfl⟩, hW, hsame.mono (by decide) (by decide)⟩
  · show Steps p.tables e below (s₁.setTop (mkF m 0 #[.val (.int p1)] [])) _
    refine XS.iloadN X0.here hx rfl (hb hby d6_0) rfl  ?_
    show Steps p.tables e below (s₁.setTop (mkF m 1 #[.val (.int p1)] [(.int p1)])) _
    refine XS.bipush X0.here hx rfl (hb hby d6_1) ?_
    show Steps p.tables e below (s₁.setTop (mkF m 3 #[.val (.int p1)] [(.int (6 : Int32)), (.int p1)])) _
    refine XS.ishr X0.here hx rfl (hb hby d6_3) rfl ?_
    show Steps p.tables e below (s₁.setTop (mkF m 4 #[.val (.int p1)] [(.int (p1 >>> ((6 : Int32) &&& 31)))])) _
    exact retI X0 hx Bd.returns (hb hby d6_4) hrZ
  · show Q6 Z p1 h0 n0 _ s₁.heap _
    rw [e0]
    exact ⟨(congrArg (fun z => some (Value.int z)) (own_wi hp0 hp6)), N0, rfl⟩
theorem d9_0 : decode jdk_92_method_2_code 0 = .ok (.getstatic 3, 3) := by decide +kernel
theorem d9_3 : decode jdk_92_method_2_code 3 = .ok (.ifCond .ne 34, 3) := by decide +kernel
theorem d9_37 : decode jdk_92_method_2_code 37 = .ok (.getstatic 3, 3) := by decide +kernel
theorem d9_40 : decode jdk_92_method_2_code 40 = .ok (.ifCond .ne 30, 3) := by decide +kernel
theorem d9_70 : decode jdk_92_method_2_code 70 = .ok (.getstatic 3, 3) := by decide +kernel
theorem d9_73 : decode jdk_92_method_2_code 73 = .ok (.ifCond .ne 37, 3) := by decide +kernel
theorem d9_110 : decode jdk_92_method_2_code 110 = .ok (.return_, 1) := by decide +kernel
theorem ef9 (m : MethodId) (b : Addr) : entryFrame m #[(.ref b)] 1 = mkF m 0 #[.val (.ref b)] [] := by first | (simp [entryFrame, mkF, argsToLocals, Value.category]; done) | rfl
def Q9 (Z : State) (b : Addr) (h0 : Heap) (n0 : Nat) (v : Option Value) (h : Heap) (L : List Loc) : Prop := v = none ∧ Fr n0 L ∧ h = h0
set_option maxRecDepth 65536 in
set_option maxHeartbeats 40000000 in
theorem rm9 (l : Launch) (Z : State) (a0 : Array Value) (hw : ∀ d ∈ tables_1, d.before a0 Z = true) (ws : List Jvm.Cond) (b : Addr) (h0 : Heap) (n0 : Nat) (Z0 : n0 ≤ h0.size) (S1 : Sta Z Z.heap "java/util/BitSet" "$assertionsDisabled" "Z" (.int (1 : Int32))) (O1 : Old Z n0 h0) :
    MetFree l (⟨"java/util/BitSet", "checkInvariants", "()V"⟩ : MethodName) (head1 (Jvm.Cond.code (⟨"java/util/BitSet", "checkInvariants", "()V"⟩ : MethodName) jdk_92_method_2_code 1 none :: ws) ({ frames := 0, cells := 0, slots := 0, locals := 0 } : Room)) (fun a U => a = #[(.ref b)] ∧ Z.Warmed39 U.vm ∧ U.heap = h0) (fun _ _ _ _ _ => True) (fun _ U o U' => ∃ v L, o = .returned v ∧ Q9 Z b h0 n0 v U'.heap L ∧ FrameEnd U o U' L ({ frames := 0, cells := 0, slots := 0, locals := 0 } : Room).cells ({ frames := 0, cells := 0, slots := 0, locals := 0 } : Room).slots) := by
  refine MetFree.of_bodySF (plainFor_of_name pn0) hisR ?_
  intro p e s m args below meth c s₁ Bd hml0 hP hK
  obtain ⟨rfl, hZ, hh⟩ := hP
  have hx := Bd.exec
  have hby := Bd.bytes
  have hml : c.maxLocals = 1 := hml0
  have hown : s.vm.findClass "java/util/BitSet" = some m.cls := findClass_of_methodNamed Bd.named
  have hnm := (name_of_methodNamed Bd.named Bd.method).1
  have X0 : Stand p l e ({ frames := 0, cells := 0, slots := 0, locals := 0 } : Room) s m #[(.ref b)] below meth c s₁ [] 0 0 := Stand.of_body Bd
  have e0 : s₁.heap = h0 := by rw [← hh, Bd.state]; rfl
  have N0 := Fr.nil n0
  have pre0 : ∀ tZ, Steps p.tables e below (s₁.setTop (mkF m 0 #[.val (.ref b)] [])) tZ → Steps p.tables e below (s₁.setTop (entryFrame m #[(.ref b)] 1)) tZ := fun tZ kZ => castTop (ef9 m b) kZ
  obtain ⟨T1, X1, e1, st1⟩ := getS2 X0 hx hZ hown (host := "") (Or.inl (ow hw 57 rfl)) Via.refl e0 (S1.ext O1.2) (g := (mkF m 0 #[.val (.ref b)] [])) rfl (hb hby d9_0)
  obtain ⟨T2, X2, e2, st2⟩ := getS2 X1 hx hZ hown (host := "") (Or.inl (ow hw 57 rfl)) Via.refl e1 (S1.ext O1.2) (g := (mkF m 37 #[.val (.ref b)] [])) rfl (hb hby d9_37)
  obtain ⟨T3, X3, e3, st3⟩ := getS2 X2 hx hZ hown (host := "") (Or.inl (ow hw 57 rfl)) Via.refl e2 (S1.ext O1.2) (g := (mkF m 70 #[.val (.ref b)] [])) rfl (hb hby d9_70)
  obtain ⟨fsZ, hrZ, hrun, hended, hW, hsame⟩ := X3.leave (v := none) (fun _ => rfl)
  refine ⟨_, _, pre0 _ ?_, hrun, hended, _, _, rfl, ?_, ⟨_, rfl⟩, hW, hsame.mono (by decide) (by decide)⟩
  · show Steps p.tables e below (s₁.setTop (mkF m 0 #[.val (.ref b)] [])) _
    refine st1 _ ?_
    show Steps p.tables e below (T1.setTop (mkF m 3 #[.val (.ref b)] [(.int (1 : Int32))])) _
    refine XS.ifYes X1.here hx rfl (pc0 := 3) (pc' := 37) rfl (hb hby d9_3) rfl ((if0 _ _).trans (feq (by decide)).2) (by decide) (by decide) ?_
    show Steps p.tables e below (T1.setTop (mkF m 37 #[.val (.ref b)] [])) _
    refine st2 _ ?_
    show Steps p.tables e below (T2.setTop (mkF m 40 #[.val (.ref b)] [(.int (1 : Int32))])) _
    refine XS.ifYes X2.here hx rfl (pc0 := 40) (pc' := 70) rfl (hb hby d9_40) rfl ((if0 _ _).trans (feq (by decide)).2) (by decide) (by decide) ?_
    show Steps p.tables e below (T2.setTop (mkF m 70 #[.val (.ref b)] [])) _
    refine st3 _ ?_
    show Steps p.tables e below (T3.setTop (mkF m 73 #[.val (.ref b)] [(.int (1 : Int32))])) _
    refine XS.ifYes X3.here hx rfl (pc0 := 73) (pc' := 110) rfl (hb hby d9_73) rfl ((if0 _ _).trans (feq (by decide)).2) (by decide) (by decide) ?_
    show Steps p.tables e below (T3.setTop (mkF m 110 #[.val (.ref b)] [])) _
    exact X3.returnOut hx Bd.returns (hb hby d9_110) hrZ
  · show Q9 Z b h0 n0 _ T3.heap _
    rw [e3]
    exact ⟨rfl, N0, rfl⟩
theorem d5_0 : decode jdk_92_method_6_code 0 = .ok (.aload_n 0, 1) := by decide +kernel
theorem d5_1 : decode jdk_92_method_6_code 1 = .ok (.iload_n 1, 1) := by decide +kernel
theorem d5_2 : decode jdk_92_method_6_code 2 = .ok (.iconst 1, 1) := by decide +kernel
theorem d5_3 : decode jdk_92_method_6_code 3 = .ok (.isub, 1) := by decide +kernel
theorem d5_4 : decode jdk_92_method_6_code 4 = .ok (.invokestatic 52, 3) := by decide +kernel
theorem pd1 : parseMethodDescriptor "(I)I" = some ⟨[.int], some .int⟩ := by decide +kernel
theorem d5_7 : decode jdk_92_method_6_code 7 = .ok (.iconst 1, 1) := by decide +kernel
theorem d5_8 : decode jdk_92_method_6_code 8 = .ok (.iadd, 1) := by decide +kernel
theorem d5_9 : decode jdk_92_method_6_code 9 = .ok (.newarray .long, 2) := by decide +kernel
theorem d5_11 : decode jdk_92_method_6_code 11 = .ok (.putfield 11, 3) := by decide +kernel
theorem d5_14 : decode jdk_92_method_6_code 14 = .ok (.return_, 1) := by decide +kernel
theorem ef5 (m : MethodId) (b : Addr) : entryFrame m #[(.ref b), (.int (64 : Int32))] 2 = mkF m 0 #[.val (.ref b), .val (.int (64 : Int32))] [] := by first | (simp [entryFrame, mkF, argsToLocals, Value.category]; done) | rfl
def Q5 (Z : State) (b : Addr) (u1 : Value) (u2 : Value) (h0 : Heap) (n0 : Nat) (v : Option Value) (h : Heap) (L : List Loc) : Prop := ∃ (wa : Addr) (kl : ClassId), v = none ∧ Fr n0 L ∧ Keep h0 h [b] ∧ n0 ≤ wa ∧ h0.size ≤ wa ∧ Exa Z h b "java/util/BitSet" ∧ Fld Z h b "java/util/BitSet" "wordsInUse" "I" (.int (0 : Int32)) ∧ Fld Z h b "java/util/BitSet" "words" "[J" (.ref wa) ∧ Arv Z h wa kl .long (1 : Int32) [(.long (0 : Int64))] (.long (0 : Int64)) ∧ Fld Z h b "java/util/BitSet" "sizeIsSticky" "Z" u2
set_option maxRecDepth 65536 in
set_option maxHeartbeats 40000000 in
theorem rm5 (l : Launch) (Z : State) (a0 : Array Value) (hw : ∀ d ∈ tables_1, d.before a0 Z = true) (ws : List Jvm.Cond) (b : Addr) (u1 : Value) (u2 : Value) (h0 : Heap) (n0 : Nat) (Z0 : n0 ≤ h0.size) (E1 : Exa Z h0 b "java/util/BitSet") (F1 : Fld Z h0 b "java/util/BitSet" "words" "[J" u1) (F2 : Fld Z h0 b "java/util/BitSet" "wordsInUse" "I" (.int (0 : Int32))) (F3 : Fld Z h0 b "java/util/BitSet" "sizeIsSticky" "Z" u2) (g1 : n0 ≤ b) :
    MetFree l (⟨"java/util/BitSet", "initWords", "(I)V"⟩ : MethodName) (head1 (Jvm.Cond.code (⟨"java/util/BitSet", "initWords", "(I)V"⟩ : MethodName) jdk_92_method_6_code 2 none :: ws) ({ frames := 1, cells := 1, slots := 1, locals := 13 } : Room)) (fun a U => a = #[(.ref b), (.int (64 : Int32))] ∧ Z.Warmed39 U.vm ∧ U.heap = h0) (fun _ _ _ _ _ => True) (fun _ U o U' => ∃ v L, o = .returned v ∧ Q5 Z b u1 u2 h0 n0 v U'.heap L ∧ FrameEnd U o U' L ({ frames := 1, cells := 1, slots := 1, locals := 13 } : Room).cells ({ frames := 1, cells := 1, slots := 1, locals := 13 } : Room).slots) := by
  refine MetFree.of_bodySF (plainFor_of_name pn0) hisR ?_
  intro p e s m args below meth c s₁ Bd hml0 hP hK
  obtain ⟨rfl, hZ, hh⟩ := hP
  have hx := Bd.exec
  have hby := Bd.bytes
  have hml : c.maxLocals = 2 := hml0
  have hown : s.vm.findClass "java/util/BitSet" = some m.cls := findClass_of_methodNamed Bd.named
  have hnm := (name_of_methodNamed Bd.named Bd.method).1
  have X0 : Stand p l e ({ frames := 1, cells := 1, slots := 1, locals := 13 } : Room) s m #[(.ref b), (.int (64 : Int32))] below meth c s₁ [] 0 0 := Stand.of_body Bd
  have e0 : s₁.heap = h0 := by rw [← hh, Bd.state]; rfl
  have N0 := Fr.nil n0
  have pre0 : ∀ tZ, Steps p.tables e below (s₁.setTop (mkF m 0 #[.val (.ref b), .val (.int (64 : Int32))] [])) tZ → Steps p.tables e below (s₁.setTop (entryFrame m #[(.ref b), (.int (64 : Int32))] 2)) tZ := fun tZ kZ => castTop (ef5 m b) kZ
  obtain ⟨_, _, ⟨T1, L1, k1, n1⟩, -, X1, ⟨Lc1, hQ1, l1, y1, z1⟩, st1⟩ := Jvm.LawKit.callS X0 hx (y := (⟨"java/util/BitSet", "wordIndex", "(I)I"⟩ : MethodName)) hown (mvT hZ (ow hw 30 rfl)) (mvT hZ (ow hw 31 rfl)) (mvT hZ (ow hw 16 rfl)) (mvT hZ (ow hw 32 rfl)) (by decide) (backOf (W := 1) (rm6 l Z a0 hw [] (63 : Int32) h0 n0 Z0 (by decide) (by decide)) hZ (ow hw 32 rfl) (ow hw 16 rfl) (by decide) (by decide)) (g := (mkF m 4 #[.val (.ref b), .val (.int (64 : Int32))] [(.int (63 : Int32)), (.ref b)])) rfl (by rw [hml]; rfl) (argsL := [(.int (63 : Int32))]) (rest := [(.ref b)]) (lenOf pd1 rfl) rfl (by show 2 * 0 + _ ≤ _; exact Nat.le_of_eq rfl) (hb hby d5_4) (fun _ _ => ⟨rfl, e0, (by decide : 0 + 0 ≤ _), (by decide : 0 + 0 ≤ _)⟩)
  dsimp only [Pt.U, Pt.locs, Pt.cells, Pt.slots] at X1 l1 y1 z1 st1 hQ1
  subst l1 y1 z1
  obtain ⟨rfl, N1q, e1⟩ := hQ1
  have N1 := Fr.app N0 N1q
  obtain ⟨T2, h2, k2, X2, e2, E2, A2, st2⟩ := newP X1 hx hZ (ow hw 33 rfl) e1 (g := (mkF m 9 #[.val (.ref b), .val (.int (64 : Int32))] [(.int (1 : Int32)), (.ref b)])) rfl (hb hby d5_9) rfl (by decide) (cap := 1) (by decide) (by decide) (by decide) (by decide)
  obtain ⟨b2, g2⟩ : ∃ z, z = h0.size := ⟨_, rfl⟩
  rw [← g2] at A2 st2
  have ne3 : b ≠ b2 := Nat.ne_of_lt (Nat.lt_of_lt_of_le E1.lt (Nat.le_of_eq g2.symm))
  have gn_b2 : n0 ≤ b2 := Nat.le_trans Z0 (Nat.le_of_eq g2.symm)
  have sz_b2 : h0.size ≤ b2 := Nat.le_trans (Keep.refl h0 [b]).1 (Nat.le_of_eq g2.symm)
  have Z4 : n0 ≤ h2.size := Nat.le_trans Z0 E2.1
  have K5 : Keep h0 h2 [b] := (Keep.refl h0 [b]).ext E2
  have V2 : Arv Z h2 b2 k2 .long (1 : Int32) [(.long (0 : Int64))] (.long (0 : Int64)) := (Arv.new A2 (by decide)).pad (pad_rep [] (.long (0 : Int64)) 1)
  have fa6 : Fld Z h2 b "java/util/BitSet" "words" "[J" u1 := (F1.ext E2)
  have fa7 : Exa Z h2 b "java/util/BitSet" := (E1.ext E2)
  obtain ⟨T8, h8, X8, e8, W8, st8⟩ := putF X2 hx hZ hown (host := "") (Or.inl (ow hw 34 rfl)) Via.refl e2 fa6 fa7 (Or.inl (ow hw 35 rfl)) (ow hw 15 rfl) (ty := (.array .long)) (by decide) rfl rfl (g := (mkF m 11 #[.val (.ref b), .val (.int (64 : Int32))] [(.ref b2), (.ref b)])) rfl rfl (hb hby d5_11)
  have fw8 : Fld Z h8 b "java/util/BitSet" "words" "[J" (.ref b2) := fa6.same W8
  have Z9 : n0 ≤ h8.size := Nat.le_trans Z4 (Nat.le_of_eq W8.size.symm)
  have K10 : Keep h0 h8 [b] := K5.wr W8 (Or.inl (List.mem_of_getElem? (i := 0) rfl))
  have N8 := Fr.snoc X8 N1 g1
  obtain ⟨fsZ, hrZ, hrun, hended, hW, hsame⟩ := X8.leave (v := none) (fun _ => rfl)
  have fa11 : Exa Z h8 b "java/util/BitSet" := (fa7.wr W8)
  have fa12 : Fld Z h8 b "java/util/BitSet" "wordsInUse" "I" (.int (0 : Int32)) := ((F2.ext E2).other W8 (Or.inr (slot_ne (Or.inl (ow hw 22 rfl)) (Or.inl (ow hw 35 rfl)) (by decide) (t := .int) (t' := (.array .long)) (by decide) (by decide))))
  have fa13 : Arv Z h8 b2 k2 .long (1 : Int32) [(.long (0 : Int64))] (.long (0 : Int64)) := (V2.other W8 (Ne.symm ne3))
  have fa14 : Fld Z h8 b "java/util/BitSet" "sizeIsSticky" "Z" u2 := ((F3.ext E2).other W8 (Or.inr (slot_ne (Or.inl (ow hw 24 rfl)) (Or.inl (ow hw 35 rfl)) (by decide) (t := .boolean) (t' := (.array .long)) (by decide) (by decide))))
  refine ⟨_, _, pre0 _ ?_, hrun, hended, _, _, rfl, ?_, ⟨_, rfl⟩, hW, hsame.mono (by decide) (by decide)⟩
  · show Steps p.tables e below (s₁.setTop (mkF m 0 #[.val (.ref b), .val (.int (64 : Int32))] [])) _
    refine XS.aloadN X0.here hx rfl (hb hby d5_0) rfl rfl ?_
    show Steps p.tables e below (s₁.setTop (mkF m 1 #[.val (.ref b), .val (.int (64 : Int32))] [(.ref b)])) _
    refine XS.iloadN X0.here hx rfl (hb hby d5_1) rfl  ?_
    show Steps p.tables e below (s₁.setTop (mkF m 2 #[.val (.ref b), .val (.int (64 : Int32))] [(.int (64 : Int32)), (.ref b)])) _
    refine XS.iconst X0.here hx rfl (hb hby d5_2) ?_
    show Steps p.tables e below (s₁.setTop (mkF m 3 #[.val (.ref b), .val (.int (64 : Int32))] [(.int (1 : Int32)), (.int (64 : Int32)), (.ref b)])) _
    refine XS.isub X0.here hx rfl (hb hby d5_3) rfl ?_
    show Steps p.tables e below (s₁.setTop (mkF m 4 #[.val (.ref b), .val (.int (64 : Int32))] [(.int ((64 : Int32) - (1 : Int32))), (.ref b)])) _
    rw [show ((64 : Int32) - (1 : Int32)) = (63 : Int32) from by decide]
    show Steps p.tables e below (s₁.setTop (mkF m 4 #[.val (.ref b), .val (.int (64 : Int32))] [(.int (63 : Int32)), (.ref b)])) _
    refine st1 _ ?_
    show Steps p.tables e below (T1.setTop (mkF m 7 #[.val (.ref b), .val (.int (64 : Int32))] [(.int (0 : Int32)), (.ref b)])) _
    refine XS.iconst X1.here hx rfl (hb hby d5_7) ?_
    show Steps p.tables e below (T1.setTop (mkF m 8 #[.val (.ref b), .val (.int (64 : Int32))] [(.int (1 : Int32)), (.int (0 : Int32)), (.ref b)])) _
    refine XS.iadd X1.here hx rfl (hb hby d5_8) rfl ?_
    show Steps p.tables e below (T1.setTop (mkF m 9 #[.val (.ref b), .val (.int (64 : Int32))] [(.int ((0 : Int32) + (1 : Int32))), (.ref b)])) _
    rw [show ((0 : Int32) + (1 : Int32)) = (1 : Int32) from by decide]
    show Steps p.tables e below (T1.setTop (mkF m 9 #[.val (.ref b), .val (.int (64 : Int32))] [(.int (1 : Int32)), (.ref b)])) _
    refine st2 _ ?_
    show Steps p.tables e below (T2.setTop (mkF m 11 #[.val (.ref b), .val (.int (64 : Int32))] [(.ref b2), (.ref b)])) _
    refine st8 _ ?_
    show Steps p.tables e below (T8.setTop (mkF m 14 #[.val (.ref b), .val (.int (64 : Int32))] [])) _
    exact X8.returnOut hx Bd.returns (hb hby d5_14) hrZ
  · show Q5 Z b u1 u2 h0 n0 _ T8.heap _
    rw [e8]
    exact ⟨b2, k2, rfl, N8, K10, gn_b2, sz_b2, fa11, fa12, fw8, fa13, fa14⟩
theorem d4_0 : decode jdk_92_method_4_code 0 = .ok (.aload_n 0, 1) := by decide +kernel
theorem d4_1 : decode jdk_92_method_4_code 1 = .ok (.invokespecial 21, 3) := by decide +kernel
theorem d4_4 : decode jdk_92_method_4_code 4 = .ok (.aload_n 0, 1) := by decide +kernel
theorem d4_5 : decode jdk_92_method_4_code 5 = .ok (.iconst 0, 1) := by decide +kernel
theorem d4_6 : decode jdk_92_method_4_code 6 = .ok (.putfield 7, 3) := by decide +kernel
theorem d4_9 : decode jdk_92_method_4_code 9 = .ok (.aload_n 0, 1) := by decide +kernel
theorem d4_10 : decode jdk_92_method_4_code 10 = .ok (.iconst 0, 1) := by decide +kernel
theorem d4_11 : decode jdk_92_method_4_code 11 = .ok (.putfield 24, 3) := by decide +kernel
theorem d4_14 : decode jdk_92_method_4_code 14 = .ok (.aload_n 0, 1) := by decide +kernel
theorem d4_15 : decode jdk_92_method_4_code 15 = .ok (.bipush 64, 2) := by decide +kernel
theorem d4_17 : decode jdk_92_method_4_code 17 = .ok (.invokevirtual 27, 3) := by decide +kernel
theorem pd2 : parseMethodDescriptor "(I)V" = some ⟨[.int], none⟩ := by decide +kernel
theorem d4_20 : decode jdk_92_method_4_code 20 = .ok (.aload_n 0, 1) := by decide +kernel
theorem d4_21 : decode jdk_92_method_4_code 21 = .ok (.iconst 0, 1) := by decide +kernel
theorem d4_22 : decode jdk_92_method_4_code 22 = .ok (.putfield 24, 3) := by decide +kernel
theorem d4_25 : decode jdk_92_method_4_code 25 = .ok (.return_, 1) := by decide +kernel
theorem ef4 (m : MethodId) (b : Addr) : entryFrame m #[(.ref b)] 1 = mkF m 0 #[.val (.ref b)] [] := by first | (simp [entryFrame, mkF, argsToLocals, Value.category]; done) | rfl
def Q4 (Z : State) (b : Addr) (u1 : Value) (u2 : Value) (u3 : Value) (h0 : Heap) (n0 : Nat) (v : Option Value) (h : Heap) (L : List Loc) : Prop := ∃ (wa : Addr) (kl : ClassId), v = none ∧ Fr n0 L ∧ Keep h0 h [b] ∧ n0 ≤ wa ∧ h0.size ≤ wa ∧ Exa Z h b "java/util/BitSet" ∧ Fld Z h b "java/util/BitSet" "wordsInUse" "I" (.int (0 : Int32)) ∧ Fld Z h b "java/util/BitSet" "words" "[J" (.ref wa) ∧ Arv Z h wa kl .long (1 : Int32) [(.long (0 : Int64))] (.long (0 : Int64))
set_option maxRecDepth 65536 in
set_option maxHeartbeats 40000000 in
theorem rm4 (l : Launch) (Z : State) (a0 : Array Value) (hw : ∀ d ∈ tables_1, d.before a0 Z = true) (ws : List Jvm.Cond) (b : Addr) (u1 : Value) (u2 : Value) (u3 : Value) (h0 : Heap) (n0 : Nat) (Z0 : n0 ≤ h0.size) (E1 : Exa Z h0 b "java/util/BitSet") (F1 : Fld Z h0 b "java/util/BitSet" "words" "[J" u1) (F2 : Fld Z h0 b "java/util/BitSet" "wordsInUse" "I" u2) (F3 : Fld Z h0 b "java/util/BitSet" "sizeIsSticky" "Z" u3) (g1 : n0 ≤ b) :
    MetFree l (⟨"java/util/BitSet", "<init>", "()V"⟩ : MethodName) (head1 (Jvm.Cond.code (⟨"java/util/BitSet", "<init>", "()V"⟩ : MethodName) jdk_92_method_4_code 1 none :: ws) ({ frames := 2, cells := 1, slots := 1, locals := 26 } : Room)) (fun a U => a = #[(.ref b)] ∧ Z.Warmed39 U.vm ∧ U.heap = h0) (fun _ _ _ _ _ => True) (fun _ U o U' => ∃ v L, o = .returned v ∧ Q4 Z b u1 u2 u3 h0 n0 v U'.heap L ∧ FrameEnd U o U' L ({ frames := 2, cells := 1, slots := 1, locals := 26 } : Room).cells ({ frames := 2, cells := 1, slots := 1, locals := 26 } : Room).slots) := by
  refine MetFree.of_bodySF (plainFor_of_name pn0) hisR ?_
  intro p e s m args below meth c s₁ Bd hml0 hP hK
  obtain ⟨rfl, hZ, hh⟩ := hP
  have hx := Bd.exec
  have hby := Bd.bytes
  have hml : c.maxLocals = 1 := hml0
  have hown : s.vm.findClass "java/util/BitSet" = some m.cls := findClass_of_methodNamed Bd.named
  have hnm := (name_of_methodNamed Bd.named Bd.method).1
  have X0 : Stand p l e ({ frames := 2, cells := 1, slots := 1, locals := 26 } : Room) s m #[(.ref b)] below meth c s₁ [] 0 0 := Stand.of_body Bd
  have e0 : s₁.heap = h0 := by rw [← hh, Bd.state]; rfl
  have N0 := Fr.nil n0
  have pre0 : ∀ tZ, Steps p.tables e below (s₁.setTop (mkF m 0 #[.val (.ref b)] [])) tZ → Steps p.tables e below (s₁.setTop (entryFrame m #[(.ref b)] 1)) tZ := fun tZ kZ => castTop (ef4 m b) kZ
  obtain ⟨T1, X1, e1, st1⟩ := initO X0 hx hZ hown (ow hw 20 rfl) (ow hw 12 rfl) (ow hw 13 rfl) e0 (g := (mkF m 1 #[.val (.ref b)] [(.ref b)])) rfl (by rw [hml]; rfl) rfl (hb hby d4_1) (by decide) (W := 0) (by show 2 * 0 + _ ≤ _; exact Nat.le_of_eq rfl) (by decide)
  obtain ⟨T2, h2, X2, e2, W2, st2⟩ := putF X1 hx hZ hown (host := "") (Or.inl (ow hw 21 rfl)) Via.refl e1 F2 E1 (Or.inl (ow hw 22 rfl)) (ow hw 15 rfl) (ty := .int) (by decide) rfl rfl (g := (mkF m 6 #[.val (.ref b)] [(.int (0 : Int32)), (.ref b)])) rfl rfl (hb hby d4_6)
  have fw2 : Fld Z h2 b "java/util/BitSet" "wordsInUse" "I" (.int (0 : Int32)) := F2.same W2
  have Z3 : n0 ≤ h2.size := Nat.le_trans Z0 (Nat.le_of_eq W2.size.symm)
  have K4 : Keep h0 h2 [b] := (Keep.refl h0 [b]).wr W2 (Or.inl (List.mem_of_getElem? (i := 0) rfl))
  have N2 := Fr.snoc X2 N0 g1
  have fa5 : Fld Z h2 b "java/util/BitSet" "sizeIsSticky" "Z" u3 := (F3.other W2 (Or.inr (slot_ne (Or.inl (ow hw 24 rfl)) (Or.inl (ow hw 22 rfl)) (by decide) (t := .boolean) (t' := .int) (by decide) (by decide))))
  have fa6 : Exa Z h2 b "java/util/BitSet" := (E1.wr W2)
  obtain ⟨T7, h7, X7, e7, W7, st7⟩ := putFN X2 hx hZ hown (ow hw 23 rfl) Via.refl e2 fa5 fa6 (Or.inl (ow hw 24 rfl)) (ow hw 15 rfl) (ty := .boolean) (v' := (.int (0 : Int32))) (by decide) rfl (by decide) (g := (mkF m 11 #[.val (.ref b)] [(.int (0 : Int32)), (.ref b)])) rfl rfl (hb hby d4_11)
  have fw7 : Fld Z h7 b "java/util/BitSet" "sizeIsSticky" "Z" (.int (0 : Int32)) := fa5.same W7
  have Z8 : n0 ≤ h7.size := Nat.le_trans Z3 (Nat.le_of_eq W7.size.symm)
  have K9 : Keep h0 h7 [b] := K4.wr W7 (Or.inl (List.mem_of_getElem? (i := 0) rfl))
  have N7 := Fr.snoc X7 N2 g1
  have fa10 : Exa Z h7 b "java/util/BitSet" := (fa6.wr W7)
  have fa11 : Fld Z h7 b "java/util/BitSet" "words" "[J" u1 := ((F1.other W2 (Or.inr (slot_ne (Or.inl (ow hw 35 rfl)) (Or.inl (ow hw 22 rfl)) (by decide) (t := (.array .long)) (t' := .int) (by decide) (by decide)))).other W7 (Or.inr (slot_ne (Or.inl (ow hw 35 rfl)) (Or.inl (ow hw 24 rfl)) (by decide) (t := (.array .long)) (t' := .boolean) (by decide) (by decide))))
  have fa12 : Fld Z h7 b "java/util/BitSet" "wordsInUse" "I" (.int (0 : Int32)) := (fw2.other W7 (Or.inr (slot_ne (Or.inl (ow hw 22 rfl)) (Or.inl (ow hw 24 rfl)) (by decide) (t := .int) (t' := .boolean) (by decide) (by decide))))
  obtain ⟨cq13, q13, q13'⟩ := fa10.cell
  obtain ⟨_, _, ⟨T13, L13, k13, n13⟩, -, X13, ⟨Lc13, hQ13, l13, y13, z13⟩, st13⟩ := X7.privateBack hx (y := (⟨"java/util/BitSet", "initWords", "(I)V"⟩ : MethodName)) hown (mvT hZ (ow hw 25 rfl)) (mvT hZ (ow hw 26 rfl)) (mvT hZ (ow hw 28 rfl)) (Cond.privateMethod_at (mvP hZ (ow hw 27 rfl) (args := #[]))) (mvT hZ (ow hw 29 rfl)) (by decide) (backOf (W := 0) (rm5 l Z a0 hw [] b u1 (.int (0 : Int32)) h7 n0 Z8 fa10 fa11 fa12 fw7 g1) hZ (ow hw 29 rfl) (ow hw 16 rfl) (by decide) (by decide)) (g := (mkF m 17 #[.val (.ref b)] [(.int (64 : Int32)), (.ref b)])) rfl (by rw [hml]; rfl) (Steps.refl _) (a := b) (by rw [e7]; exact q13) q13' (argsL := [(.int (64 : Int32))]) (rest := []) (lenOf pd2 rfl) rfl (by show 2 * 0 + _ ≤ _; exact Nat.le_of_eq rfl) (hb hby d4_17) (fun _ _ => ⟨rfl, e7, (by decide : 0 + 1 ≤ _), (by decide : 0 + 1 ≤ _)⟩)
  dsimp only [Pt.U, Pt.locs, Pt.cells, Pt.slots] at X13 l13 y13 z13 st13 hQ13
  subst l13 y13 z13
  obtain ⟨wa_14, kl_15, rfl, N13q, K13, u13_0, u13_1, f13_0, f13_1, f13_2, f13_3, f13_4⟩ := hQ13
  have N13 := Fr.app N7 N13q
  have Z16 : n0 ≤ T13.heap.size := Nat.le_trans Z8 K13.1
  have K17 : Keep h0 T13.heap [b] := K9.trans K13 (allS (P := fun x => x ∈ _ ∨ _) (Or.inl (List.mem_of_getElem? (i := 0) rfl)) all0)
  have ne18 : b ≠ wa_14 := Nat.ne_of_lt (Nat.lt_of_lt_of_le fa10.lt u13_1)
  have sz_wa_14 : h0.size ≤ wa_14 := Nat.le_trans K9.1 u13_1
  obtain ⟨T19, h19, X19, e19, W19, st19⟩ := putFN X13 hx hZ hown (ow hw 23 rfl) Via.refl rfl f13_4 f13_0 (Or.inl (ow hw 24 rfl)) (ow hw 15 rfl) (ty := .boolean) (v' := (.int (0 : Int32))) (by decide) rfl (by decide) (g := (mkF m 22 #[.val (.ref b)] [(.int (0 : Int32)), (.ref b)])) rfl rfl (hb hby d4_22)
  have fw19 : Fld Z h19 b "java/util/BitSet" "sizeIsSticky" "Z" (.int (0 : Int32)) := f13_4.same W19
  have Z20 : n0 ≤ h19.size := Nat.le_trans Z16 (Nat.le_of_eq W19.size.symm)
  have K21 : Keep h0 h19 [b] := K17.wr W19 (Or.inl (List.mem_of_getElem? (i := 0) rfl))
  have N19 := Fr.snoc X19 N13 g1
  obtain ⟨fsZ, hrZ, hrun, hended, hW, hsame⟩ := X19.leave (v := none) (fun _ => rfl)
  have fa22 : Exa Z h19 b "java/util/BitSet" := (f13_0.wr W19)
  have fa23 : Fld Z h19 b "java/util/BitSet" "wordsInUse" "I" (.int (0 : Int32)) := (f13_1.other W19 (Or.inr (slot_ne (Or.inl (ow hw 22 rfl)) (Or.inl (ow hw 24 rfl)) (by decide) (t := .int) (t' := .boolean) (by decide) (by decide))))
  have fa24 : Fld Z h19 b "java/util/BitSet" "words" "[J" (.ref wa_14) := (f13_2.other W19 (Or.inr (slot_ne (Or.inl (ow hw 35 rfl)) (Or.inl (ow hw 24 rfl)) (by decide) (t := (.array .long)) (t' := .boolean) (by decide) (by decide))))
  have fa25 : Arv Z h19 wa_14 kl_15 .long (1 : Int32) [(.long (0 : Int64))] (.long (0 : Int64)) := (f13_3.other W19 (Ne.symm ne18))
  refine ⟨_, _, pre0 _ ?_, hrun, hended, _, _, rfl, ?_, ⟨_, rfl⟩, hW, hsame.mono (by decide) (by decide)⟩
  · show Steps p.tables e below (s₁.setTop (mkF m 0 #[.val (.ref b)] [])) _
    refine XS.aloadN X0.here hx rfl (hb hby d4_0) rfl rfl ?_
    show Steps p.tables e below (s₁.setTop (mkF m 1 #[.val (.ref b)] [(.ref b)])) _
    refine st1 _ ?_
    show Steps p.tables e below (T1.setTop (mkF m 4 #[.val (.ref b)] [])) _
    refine XS.aloadN X1.here hx rfl (hb hby d4_4) rfl rfl ?_
    show Steps p.tables e below (T1.setTop (mkF m 5 #[.val (.ref b)] [(.ref b)])) _
    refine XS.iconst X1.here hx rfl (hb hby d4_5) ?_
    show Steps p.tables e below (T1.setTop (mkF m 6 #[.val (.ref b)] [(.int (0 : Int32)), (.ref b)])) _
    refine st2 _ ?_
    show Steps p.tables e below (T2.setTop (mkF m 9 #[.val (.ref b)] [])) _
    refine XS.aloadN X2.here hx rfl (hb hby d4_9) rfl rfl ?_
    show Steps p.tables e below (T2.setTop (mkF m 10 #[.val (.ref b)] [(.ref b)])) _
    refine XS.iconst X2.here hx rfl (hb hby d4_10) ?_
    show Steps p.tables e below (T2.setTop (mkF m 11 #[.val (.ref b)] [(.int (0 : Int32)), (.ref b)])) _
    refine st7 _ ?_
    show Steps p.tables e below (T7.setTop (mkF m 14 #[.val (.ref b)] [])) _
    refine XS.aloadN X7.here hx rfl (hb hby d4_14) rfl rfl ?_
    show Steps p.tables e below (T7.setTop (mkF m 15 #[.val (.ref b)] [(.ref b)])) _
    refine XS.bipush X7.here hx rfl (hb hby d4_15) ?_
    show Steps p.tables e below (T7.setTop (mkF m 17 #[.val (.ref b)] [(.int (64 : Int32)), (.ref b)])) _
    refine st13.trans ?_
    show Steps p.tables e below (T13.setTop (mkF m 20 #[.val (.ref b)] [])) _
    refine XS.aloadN X13.here hx rfl (hb hby d4_20) rfl rfl ?_
    show Steps p.tables e below (T13.setTop (mkF m 21 #[.val (.ref b)] [(.ref b)])) _
    refine XS.iconst X13.here hx rfl (hb hby d4_21) ?_
    show Steps p.tables e below (T13.setTop (mkF m 22 #[.val (.ref b)] [(.int (0 : Int32)), (.ref b)])) _
    refine st19 _ ?_
    show Steps p.tables e below (T19.setTop (mkF m 25 #[.val (.ref b)] [])) _
    exact X19.returnOut hx Bd.returns (hb hby d4_25) hrZ
  · show Q4 Z b u1 u2 u3 h0 n0 _ T19.heap _
    rw [e19]
    exact ⟨wa_14, kl_15, rfl, N19, K21, u13_0, sz_wa_14, fa22, fa23, fa24, fa25⟩
theorem pn3 : plainName "com/example/portunus/portunus/admission/LastEvents" = true := by first | (simp [plainName, overriddenIn]; done) | decide +kernel
theorem d2_0 : decode prog_11_method_1_code 0 = .ok (.aload_n 0, 1) := by decide +kernel
theorem d2_1 : decode prog_11_method_1_code 1 = .ok (.invokespecial 1, 3) := by decide +kernel
theorem d2_4 : decode prog_11_method_1_code 4 = .ok (.aload_n 0, 1) := by decide +kernel
theorem d2_5 : decode prog_11_method_1_code 5 = .ok (.new 7, 3) := by decide +kernel
theorem d2_8 : decode prog_11_method_1_code 8 = .ok (.dup, 1) := by decide +kernel
theorem d2_9 : decode prog_11_method_1_code 9 = .ok (.invokespecial 9, 3) := by decide +kernel
theorem pd4 : parseMethodDescriptor "()V" = some ⟨[], none⟩ := by decide +kernel
theorem d2_12 : decode prog_11_method_1_code 12 = .ok (.putfield 10, 3) := by decide +kernel
theorem d2_15 : decode prog_11_method_1_code 15 = .ok (.aload_n 0, 1) := by decide +kernel
theorem d2_16 : decode prog_11_method_1_code 16 = .ok (.iload_n 1, 1) := by decide +kernel
theorem d2_17 : decode prog_11_method_1_code 17 = .ok (.putfield 16, 3) := by decide +kernel
theorem d2_20 : decode prog_11_method_1_code 20 = .ok (.return_, 1) := by decide +kernel
theorem ef2 (m : MethodId) (r : Addr) (p1 : Int32) : entryFrame m #[(.ref r), (.int p1)] 2 = mkF m 0 #[.val (.ref r), .val (.int p1)] [] := by first | (simp [entryFrame, mkF, argsToLocals, Value.category]; done) | rfl
def Q2 (Z : State) (r : Addr) (p1 : Int32) (u1 : Value) (u2 : Value) (h0 : Heap) (n0 : Nat) (v : Option Value) (h : Heap) (L : List Loc) : Prop := ∃ (b : Addr) (wa : Addr) (kl : ClassId), v = none ∧ Fr n0 L ∧ Keep h0 h [r] ∧ n0 ≤ b ∧ h0.size ≤ b ∧ n0 ≤ wa ∧ h0.size ≤ wa ∧ b ≠ wa ∧ Exa Z h r oE ∧ Fld Z h r oE "_marks" "Ljava/util/BitSet;" (.ref b) ∧ Fld Z h r oE "_size" "I" (.int p1) ∧ Fld Z h r oE "_taken" "J" (.long (0 : Int64)) ∧ Fld Z h r oE "_marked" "I" (.int (0 : Int32)) ∧ Exa Z h b "java/util/BitSet" ∧ Fld Z h b "java/util/BitSet" "wordsInUse" "I" (.int (0 : Int32)) ∧ Fld Z h b "java/util/BitSet" "words" "[J" (.ref wa) ∧ Arv Z h wa kl .long (1 : Int32) [(.long (0 : Int64))] (.long (0 : Int64))
set_option maxRecDepth 65536 in
set_option maxHeartbeats 40000000 in
theorem rm2 (l : Launch) (Z : State) (a0 : Array Value) (hw : ∀ d ∈ tables_1, d.before a0 Z = true) (ws : List Jvm.Cond) (r : Addr) (p1 : Int32) (u1 : Value) (u2 : Value) (h0 : Heap) (n0 : Nat) (Z0 : n0 ≤ h0.size) (F0 : Exa Z h0 r oE) (F1 : Fld Z h0 r oE "_marks" "Ljava/util/BitSet;" u1) (F2 : Fld Z h0 r oE "_size" "I" u2) (F3 : Fld Z h0 r oE "_taken" "J" (.long (0 : Int64))) (F4 : Fld Z h0 r oE "_marked" "I" (.int (0 : Int32))) (g1 : n0 ≤ r) :
    MetFree l (⟨oE, "<init>", "(I)V"⟩ : MethodName) (head1 (Jvm.Cond.code (⟨oE, "<init>", "(I)V"⟩ : MethodName) prog_11_method_1_code 2 none :: ws) ({ frames := 3, cells := 2, slots := 4, locals := 40 } : Room)) (fun a U => a = #[(.ref r), (.int p1)] ∧ Z.Warmed39 U.vm ∧ U.heap = h0) (fun _ _ _ _ _ => True) (fun _ U o U' => ∃ v L, o = .returned v ∧ Q2 Z r p1 u1 u2 h0 n0 v U'.heap L ∧ FrameEnd U o U' L ({ frames := 3, cells := 2, slots := 4, locals := 40 } : Room).cells ({ frames := 3, cells := 2, slots := 4, locals := 40 } : Room).slots) := by
  refine MetFree.of_bodySF (plainFor_of_name pn3) hisR ?_
  intro p e s m args below meth c s₁ Bd hml0 hP hK
  obtain ⟨rfl, hZ, hh⟩ := hP
  have hx := Bd.exec
  have hby := Bd.bytes
  have hml : c.maxLocals = 2 := hml0
  have hown : s.vm.findClass oE = some m.cls := findClass_of_methodNamed Bd.named
  have hnm := (name_of_methodNamed Bd.named Bd.method).1
  have X0 : Stand p l e ({ frames := 3, cells := 2, slots := 4, locals := 40 } : Room) s m #[(.ref r), (.int p1)] below meth c s₁ [] 0 0 := Stand.of_body Bd
  have e0 : s₁.heap = h0 := by rw [← hh, Bd.state]; rfl
  have N0 := Fr.nil n0
  have pre0 : ∀ tZ, Steps p.tables e below (s₁.setTop (mkF m 0 #[.val (.ref r), .val (.int p1)] [])) tZ → Steps p.tables e below (s₁.setTop (entryFrame m #[(.ref r), (.int p1)] 2)) tZ := fun tZ kZ => castTop (ef2 m r p1) kZ
  obtain ⟨T1, X1, e1, st1⟩ := initO X0 hx hZ hown (ow hw 11 rfl) (ow hw 12 rfl) (ow hw 13 rfl) e0 (g := (mkF m 1 #[.val (.ref r), .val (.int p1)] [(.ref r)])) rfl (by rw [hml]; rfl) rfl (hb hby d2_1) (by decide) (W := 0) (by show 2 * 0 + _ ≤ _; exact Nat.le_of_eq rfl) (by decide)
  obtain ⟨T2, h2, X2, e2, E2, A2, D2, -, st2⟩ := newO X1 hx hZ hown (ow hw 14 rfl) (ow hw 15 rfl) (ow hw 16 rfl) e1 (g := (mkF m 5 #[.val (.ref r), .val (.int p1)] [(.ref r)])) rfl (hb hby d2_5) (by decide) (by decide)
  obtain ⟨b2, g2⟩ : ∃ z, z = h0.size := ⟨_, rfl⟩
  rw [← g2] at A2 D2 st2
  have ne3 : r ≠ b2 := Nat.ne_of_lt (Nat.lt_of_lt_of_le F0.lt (Nat.le_of_eq g2.symm))
  have gn_b2 : n0 ≤ b2 := Nat.le_trans Z0 (Nat.le_of_eq g2.symm)
  have sz_b2 : h0.size ≤ b2 := Nat.le_trans (Keep.refl h0 [r]).1 (Nat.le_of_eq g2.symm)
  have Z4 : n0 ≤ h2.size := Nat.le_trans Z0 E2.1
  have K5 : Keep h0 h2 [r] := (Keep.refl h0 [r]).ext E2
  have F_wordsInUse_b2 : Fld Z h2 b2 "java/util/BitSet" "wordsInUse" "I" (.int (0 : Int32)) := D2 (Or.inl (ow hw 22 rfl)) (ty := .int) (by decide)
  have F_sizeIsSticky_b2 : Fld Z h2 b2 "java/util/BitSet" "sizeIsSticky" "Z" (.int (0 : Int32)) := D2 (Or.inl (ow hw 24 rfl)) (ty := .boolean) (by decide)
  have F_words_b2 : Fld Z h2 b2 "java/util/BitSet" "words" "[J" .null := D2 (Or.inl (ow hw 35 rfl)) (ty := (.array .long)) (by decide)
  obtain ⟨_, _, ⟨T6, L6, k6, n6⟩, -, X6, ⟨Lc6, hQ6, l6, y6, z6⟩, st6⟩ := X2.specialBack hx (y := (⟨"java/util/BitSet", "<init>", "()V"⟩ : MethodName)) rfl hown (mvT hZ (ow hw 17 rfl)) (mvT hZ (ow hw 18 rfl)) (mvT hZ (ow hw 19 rfl)) (by decide) (backOf (W := 2) (rm4 l Z a0 hw [] b2 .null (.int (0 : Int32)) (.int (0 : Int32)) h2 n0 Z4 A2 F_words_b2 F_wordsInUse_b2 F_sizeIsSticky_b2 gn_b2) hZ (ow hw 19 rfl) (ow hw 16 rfl) (by decide) (by decide)) (g := (mkF m 9 #[.val (.ref r), .val (.int p1)] [(.ref b2), (.ref b2), (.ref r)])) rfl (by rw [hml]; rfl) (Steps.refl _) (a := b2) (argsL := []) (rest := [(.ref b2), (.ref r)]) (lenOf pd4 rfl) rfl (by show 2 * 0 + _ ≤ _; exact Nat.le_of_eq rfl) (hb hby d2_9) (fun _ _ => ⟨rfl, e2, (by decide : 1 + 1 ≤ _), (by decide : 3 + 1 ≤ _)⟩)
  dsimp only [Pt.U, Pt.locs, Pt.cells, Pt.slots] at X6 l6 y6 z6 st6 hQ6
  subst l6 y6 z6
  obtain ⟨wa_7, kl_8, rfl, N6q, K6, u6_0, u6_1, f6_0, f6_1, f6_2, f6_3⟩ := hQ6
  have N6 := Fr.app N0 N6q
  have Z9 : n0 ≤ T6.heap.size := Nat.le_trans Z4 K6.1
  have K10 : Keep h0 T6.heap [r] := K5.trans K6 (allS (P := fun x => x ∈ _ ∨ _) (Or.inr sz_b2) all0)
  have ne11 : r ≠ wa_7 := Nat.ne_of_lt (Nat.lt_of_lt_of_le (F0.ext E2).lt u6_1)
  have ne12 : b2 ≠ wa_7 := Nat.ne_of_lt (Nat.lt_of_lt_of_le A2.lt u6_1)
  have sz_wa_7 : h0.size ≤ wa_7 := Nat.le_trans K5.1 u6_1
  have fa13 : Fld Z T6.heap r oE "_marks" "Ljava/util/BitSet;" u1 := ((F1.ext E2).keep K6 (ninS ne3 nin0))
  have fa14 : Exa Z T6.heap r oE := ((F0.ext E2).keep K6)
  obtain ⟨T15, h15, X15, e15, W15, st15⟩ := putF X6 hx hZ hown (host := "") (Or.inl (ow hw 36 rfl)) Via.refl rfl fa13 fa14 (Or.inr ⟨(ow hw 37 rfl), rfl, hnm⟩) (ow hw 6 rfl) (ty := (.object "java/util/BitSet")) (by decide) rfl rfl (g := (mkF m 12 #[.val (.ref r), .val (.int p1)] [(.ref b2), (.ref r)])) rfl rfl (hb hby d2_12)
  have fw15 : Fld Z h15 r oE "_marks" "Ljava/util/BitSet;" (.ref b2) := fa13.same W15
  have Z16 : n0 ≤ h15.size := Nat.le_trans Z9 (Nat.le_of_eq W15.size.symm)
  have K17 : Keep h0 h15 [r] := K10.wr W15 (Or.inl (List.mem_of_getElem? (i := 0) rfl))
  have N15 := Fr.snoc X15 N6 g1
  have fa18 : Fld Z h15 r oE "_size" "I" u2 := (((F2.ext E2).keep K6 (ninS ne3 nin0)).other W15 (Or.inr (slot_ne (Or.inr (ow hw 39 rfl)) (Or.inr (ow hw 37 rfl)) (by decide) (t := .int) (t' := (.object "java/util/BitSet")) (by decide) (by decide))))
  have fa19 : Exa Z h15 r oE := (fa14.wr W15)
  obtain ⟨T20, h20, X20, e20, W20, st20⟩ := putF X15 hx hZ hown (host := "") (Or.inl (ow hw 38 rfl)) Via.refl e15 fa18 fa19 (Or.inr ⟨(ow hw 39 rfl), rfl, hnm⟩) (ow hw 6 rfl) (ty := .int) (by decide) rfl rfl (g := (mkF m 17 #[.val (.ref r), .val (.int p1)] [(.int p1), (.ref r)])) rfl rfl (hb hby d2_17)
  have fw20 : Fld Z h20 r oE "_size" "I" (.int p1) := fa18.same W20
  have Z21 : n0 ≤ h20.size := Nat.le_trans Z16 (Nat.le_of_eq W20.size.symm)
  have K22 : Keep h0 h20 [r] := K17.wr W20 (Or.inl (List.mem_of_getElem? (i := 0) rfl))
  have N20 := Fr.snoc X20 N15 g1
  obtain ⟨fsZ, hrZ, hrun, hended, hW, hsame⟩ := X20.leave (v := none) (fun _ => rfl)
  have fa23 : Exa Z h20 r oE := (fa19.wr W20)
  have fa24 : Fld Z h20 r oE "_marks" "Ljava/util/BitSet;" (.ref b2) := (fw15.other W20 (Or.inr (slot_ne (Or.inr (ow hw 37 rfl)) (Or.inr (ow hw 39 rfl)) (by decide) (t := (.object "java/util/BitSet")) (t' := .int) (by decide) (by decide))))
  have fa25 : Fld Z h20 r oE "_taken" "J" (.long (0 : Int64)) := ((((F3.ext E2).keep K6 (ninS ne3 nin0)).other W15 (Or.inr (slot_ne (Or.inl (ow hw 46 rfl)) (Or.inr (ow hw 37 rfl)) (by decide) (t := .long) (t' := (.object "java/util/BitSet")) (by decide) (by decide)))).other W20 (Or.inr (slot_ne (Or.inl (ow hw 46 rfl)) (Or.inr (ow hw 39 rfl)) (by decide) (t := .long) (t' := .int) (by decide) (by decide))))
  have fa26 : Fld Z h20 r oE "_marked" "I" (.int (0 : Int32)) := ((((F4.ext E2).keep K6 (ninS ne3 nin0)).other W15 (Or.inr (slot_ne (Or.inl (ow hw 79 rfl)) (Or.inr (ow hw 37 rfl)) (by decide) (t := .int) (t' := (.object "java/util/BitSet")) (by decide) (by decide)))).other W20 (Or.inr (slot_ne (Or.inl (ow hw 79 rfl)) (Or.inr (ow hw 39 rfl)) (by decide) (t := .int) (t' := .int) (by decide) (by decide))))
  have fa27 : Exa Z h20 b2 "java/util/BitSet" := ((f6_0.wr W15).wr W20)
  have fa28 : Fld Z h20 b2 "java/util/BitSet" "wordsInUse" "I" (.int (0 : Int32)) := ((f6_1.other W15 (Or.inl (Ne.symm ne3))).other W20 (Or.inl (Ne.symm ne3)))
  have fa29 : Fld Z h20 b2 "java/util/BitSet" "words" "[J" (.ref wa_7) := ((f6_2.other W15 (Or.inl (Ne.symm ne3))).other W20 (Or.inl (Ne.symm ne3)))
  have fa30 : Arv Z h20 wa_7 kl_8 .long (1 : Int32) [(.long (0 : Int64))] (.long (0 : Int64)) := ((f6_3.other W15 (Ne.symm ne11)).other W20 (Ne.symm ne11))
  refine ⟨_, _, pre0 _ ?_, hrun, hended, _, _, rfl, ?_, ⟨_, rfl⟩, hW, hsame.mono (by decide) (by decide)⟩
  · show Steps p.tables e below (s₁.setTop (mkF m 0 #[.val (.ref r), .val (.int p1)] [])) _
    refine XS.aloadN X0.here hx rfl (hb hby d2_0) rfl rfl ?_
    show Steps p.tables e below (s₁.setTop (mkF m 1 #[.val (.ref r), .val (.int p1)] [(.ref r)])) _
    refine st1 _ ?_
    show Steps p.tables e below (T1.setTop (mkF m 4 #[.val (.ref r), .val (.int p1)] [])) _
    refine XS.aloadN X1.here hx rfl (hb hby d2_4) rfl rfl ?_
    show Steps p.tables e below (T1.setTop (mkF m 5 #[.val (.ref r), .val (.int p1)] [(.ref r)])) _
    refine st2 _ ?_
    show Steps p.tables e below (T2.setTop (mkF m 8 #[.val (.ref r), .val (.int p1)] [(.ref b2), (.ref r)])) _
    refine XS.dup X2.here hx rfl (hb hby d2_8) rfl rfl ?_
    show Steps p.tables e below (T2.setTop (mkF m 9 #[.val (.ref r), .val (.int p1)] [(.ref b2), (.ref b2), (.ref r)])) _
    refine st6.trans ?_
    show Steps p.tables e below (T6.setTop (mkF m 12 #[.val (.ref r), .val (.int p1)] [(.ref b2), (.ref r)])) _
    refine st15 _ ?_
    show Steps p.tables e below (T15.setTop (mkF m 15 #[.val (.ref r), .val (.int p1)] [])) _
    refine XS.aloadN X15.here hx rfl (hb hby d2_15) rfl rfl ?_
    show Steps p.tables e below (T15.setTop (mkF m 16 #[.val (.ref r), .val (.int p1)] [(.ref r)])) _
    refine XS.iloadN X15.here hx rfl (hb hby d2_16) rfl  ?_
    show Steps p.tables e below (T15.setTop (mkF m 17 #[.val (.ref r), .val (.int p1)] [(.int p1), (.ref r)])) _
    refine st20 _ ?_
    show Steps p.tables e below (T20.setTop (mkF m 20 #[.val (.ref r), .val (.int p1)] [])) _
    exact X20.returnOut hx Bd.returns (hb hby d2_20) hrZ
  · show Q2 Z r p1 u1 u2 h0 n0 _ T20.heap _
    rw [e20]
    exact ⟨b2, wa_7, kl_8, rfl, N20, K22, gn_b2, sz_b2, u6_0, sz_wa_7, ne12, fa23, fa24, fw20, fa25, fa26, fa27, fa28, fa29, fa30⟩
theorem d8_0 : decode jdk_92_method_26_code 0 = .ok (.iload_n 1, 1) := by decide +kernel
theorem d8_1 : decode jdk_92_method_26_code 1 = .ok (.ifCond .ge 30, 3) := by decide +kernel
theorem d8_31 : decode jdk_92_method_26_code 31 = .ok (.aload_n 0, 1) := by decide +kernel
theorem d8_32 : decode jdk_92_method_26_code 32 = .ok (.invokevirtual 56, 3) := by decide +kernel
theorem d8_35 : decode jdk_92_method_26_code 35 = .ok (.iload_n 1, 1) := by decide +kernel
theorem d8_36 : decode jdk_92_method_26_code 36 = .ok (.invokestatic 52, 3) := by decide +kernel
theorem d8_39 : decode jdk_92_method_26_code 39 = .ok (.istore_n 2, 1) := by decide +kernel
theorem d8_40 : decode jdk_92_method_26_code 40 = .ok (.iload_n 2, 1) := by decide +kernel
theorem d8_41 : decode jdk_92_method_26_code 41 = .ok (.aload_n 0, 1) := by decide +kernel
theorem d8_42 : decode jdk_92_method_26_code 42 = .ok (.getfield 7, 3) := by decide +kernel
theorem d8_45 : decode jdk_92_method_26_code 45 = .ok (.if_icmp .ge 22, 3) := by decide +kernel
theorem d8_48 : decode jdk_92_method_26_code 48 = .ok (.aload_n 0, 1) := by decide +kernel
theorem d8_49 : decode jdk_92_method_26_code 49 = .ok (.getfield 11, 3) := by decide +kernel
theorem d8_52 : decode jdk_92_method_26_code 52 = .ok (.iload_n 2, 1) := by decide +kernel
theorem d8_53 : decode jdk_92_method_26_code 53 = .ok (.laload, 1) := by decide +kernel
theorem d8_54 : decode jdk_92_method_26_code 54 = .ok (.lconst 1, 1) := by decide +kernel
theorem d8_55 : decode jdk_92_method_26_code 55 = .ok (.iload_n 1, 1) := by decide +kernel
theorem d8_56 : decode jdk_92_method_26_code 56 = .ok (.lshl, 1) := by decide +kernel
theorem d8_57 : decode jdk_92_method_26_code 57 = .ok (.land, 1) := by decide +kernel
theorem d8_58 : decode jdk_92_method_26_code 58 = .ok (.lconst 0, 1) := by decide +kernel
theorem d8_59 : decode jdk_92_method_26_code 59 = .ok (.lcmp, 1) := by decide +kernel
theorem d8_60 : decode jdk_92_method_26_code 60 = .ok (.ifCond .eq 7, 3) := by decide +kernel
theorem d8_67 : decode jdk_92_method_26_code 67 = .ok (.iconst 0, 1) := by decide +kernel
theorem d8_68 : decode jdk_92_method_26_code 68 = .ok (.ireturn, 1) := by decide +kernel
theorem d8_63 : decode jdk_92_method_26_code 63 = .ok (.iconst 1, 1) := by decide +kernel
theorem d8_64 : decode jdk_92_method_26_code 64 = .ok (.goto 4, 3) := by decide +kernel
theorem ef8 (m : MethodId) (b : Addr) (p1 : Int32) : entryFrame m #[(.ref b), (.int p1)] 3 = mkF m 0 #[.val (.ref b), .val (.int p1), .unset] [] := by first | (simp [entryFrame, mkF, argsToLocals, Value.category]; done) | rfl
def Q8 (Z : State) (b : Addr) (p1 : Int32) (wa : Addr) (kl : ClassId) (wi : Int32) (wv : Int64) (h0 : Heap) (n0 : Nat) (v : Option Value) (h : Heap) (L : List Loc) : Prop := v = some (.int (own_b ((0 : Int32) < wi ∧ ¬ ((wv &&& ((1 : Int64) <<< (p1 &&& 0x3f).toInt64)) = (0 : Int64))))) ∧ Fr n0 L ∧ h = h0
set_option maxRecDepth 65536 in
set_option maxHeartbeats 40000000 in
theorem rm8 (l : Launch) (Z : State) (a0 : Array Value) (hw : ∀ d ∈ tables_1, d.before a0 Z = true) (ws : List Jvm.Cond) (b : Addr) (p1 : Int32) (wa : Addr) (kl : ClassId) (wi : Int32) (wv : Int64) (h0 : Heap) (n0 : Nat) (Z0 : n0 ≤ h0.size) (F0 : Exa Z h0 b "java/util/BitSet") (F1 : Fld Z h0 b "java/util/BitSet" "wordsInUse" "I" (.int wi)) (F2 : Fld Z h0 b "java/util/BitSet" "words" "[J" (.ref wa)) (F3 : Arv Z h0 wa kl .long (1 : Int32) [(.long wv)] (.long (0 : Int64))) (hp0 : ¬ (p1 < (0 : Int32))) (hp6 : ¬ ((63 : Int32) < p1)) (S1 : Sta Z Z.heap "java/util/BitSet" "$assertionsDisabled" "Z" (.int (1 : Int32))) (O1 : Old Z n0 h0) :
    MetFree l (⟨"java/util/BitSet", "get", "(I)Z"⟩ : MethodName) (head1 (Jvm.Cond.code (⟨"java/util/BitSet", "get", "(I)Z"⟩ : MethodName) jdk_92_method_26_code 3 (some .boolean) :: ws) ({ frames := 1, cells := 0, slots := 0, locals := 12 } : Room)) (fun a U => a = #[(.ref b), (.int p1)] ∧ Z.Warmed39 U.vm ∧ U.heap = h0) (fun _ _ _ _ _ => True) (fun _ U o U' => ∃ v L, o = .returned v ∧ Q8 Z b p1 wa kl wi wv h0 n0 v U'.heap L ∧ FrameEnd U o U' L ({ frames := 1, cells := 0, slots := 0, locals := 12 } : Room).cells ({ frames := 1, cells := 0, slots := 0, locals := 12 } : Room).slots) := by
  refine MetFree.of_bodySF (plainFor_of_name pn0) hisR ?_
  intro p e s m args below meth c s₁ Bd hml0 hP hK
  obtain ⟨rfl, hZ, hh⟩ := hP
  have hx := Bd.exec
  have hby := Bd.bytes
  have hml : c.maxLocals = 3 := hml0
  have hown : s.vm.findClass "java/util/BitSet" = some m.cls := findClass_of_methodNamed Bd.named
  have hnm := (name_of_methodNamed Bd.named Bd.method).1
  have X0 : Stand p l e ({ frames := 1, cells := 0, slots := 0, locals := 12 } : Room) s m #[(.ref b), (.int p1)] below meth c s₁ [] 0 0 := Stand.of_body Bd
  have e0 : s₁.heap = h0 := by rw [← hh, Bd.state]; rfl
  have N0 := Fr.nil n0
  have pre0 : ∀ tZ, Steps p.tables e below (s₁.setTop (mkF m 0 #[.val (.ref b), .val (.int p1), .unset] [])) tZ → Steps p.tables e below (s₁.setTop (entryFrame m #[(.ref b), (.int p1)] 3)) tZ := fun tZ kZ => castTop (ef8 m b p1) kZ
  obtain ⟨cq1, q1, q1'⟩ := F0.cell
  obtain ⟨_, _, ⟨T1, L1, k1, n1⟩, -, X1, ⟨Lc1, hQ1, l1, y1, z1⟩, st1⟩ := X0.privateBack hx (y := (⟨"java/util/BitSet", "checkInvariants", "()V"⟩ : MethodName)) hown (mvT hZ (ow hw 52 rfl)) (mvT hZ (ow hw 53 rfl)) (mvT hZ (ow hw 55 rfl)) (Cond.privateMethod_at (mvP hZ (ow hw 54 rfl) (args := #[]))) (mvT hZ (ow hw 56 rfl)) (by decide) (backOf (W := 0) (rm9 l Z a0 hw [] b h0 n0 Z0 S1 O1) hZ (ow hw 56 rfl) (ow hw 16 rfl) (by decide) (by decide)) (g := (mkF m 32 #[.val (.ref b), .val (.int p1), .unset] [(.ref b)])) rfl (by rw [hml]; rfl) (Steps.refl _) (a := b) (by rw [e0]; exact q1) q1' (argsL := []) (rest := []) (lenOf pd4 rfl) rfl (by show 2 * 0 + _ ≤ _; exact Nat.le_of_eq rfl) (hb hby d8_32) (fun _ _ => ⟨rfl, e0, (by decide : 0 + 0 ≤ _), (by decide : 0 + 0 ≤ _)⟩)
  dsimp only [Pt.U, Pt.locs, Pt.cells, Pt.slots] at X1 l1 y1 z1 st1 hQ1
  subst l1 y1 z1
  obtain ⟨rfl, N1q, e1⟩ := hQ1
  have N1 := Fr.app N0 N1q
  obtain ⟨_, _, ⟨T2, L2, k2, n2⟩, -, X2, ⟨Lc2, hQ2, l2, y2, z2⟩, st2⟩ := Jvm.LawKit.callS X1 hx (y := (⟨"java/util/BitSet", "wordIndex", "(I)I"⟩ : MethodName)) hown (mvT hZ (ow hw 30 rfl)) (mvT hZ (ow hw 31 rfl)) (mvT hZ (ow hw 16 rfl)) (mvT hZ (ow hw 32 rfl)) (by decide) (backOf (W := 0) (rm6 l Z a0 hw [] p1 h0 n0 Z0 (by first | assumption | decide | omega) (by first | assumption | decide | omega)) hZ (ow hw 32 rfl) (ow hw 16 rfl) (by decide) (by decide)) (g := (mkF m 36 #[.val (.ref b), .val (.int p1), .unset] [(.int p1)])) rfl (by rw [hml]; rfl) (argsL := [(.int p1)]) (rest := []) (lenOf pd1 rfl) rfl (by show 2 * 0 + _ ≤ _; exact Nat.le_of_eq rfl) (hb hby d8_36) (fun _ _ => ⟨rfl, e1, (by decide : 0 + 0 ≤ _), (by decide : 0 + 0 ≤ _)⟩)
  dsimp only [Pt.U, Pt.locs, Pt.cells, Pt.slots] at X2 l2 y2 z2 st2 hQ2
  subst l2 y2 z2
  obtain ⟨rfl, N2q, e2⟩ := hQ2
  have N2 := Fr.app N1 N2q
  obtain ⟨T3, X3, e3, st3⟩ := getF X2 hx hZ hown (host := "") (Or.inl (ow hw 21 rfl)) Via.refl e2 F1 (g := (mkF m 42 #[.val (.ref b), .val (.int p1), .val (.int (0 : Int32))] [(.ref b), (.int (0 : Int32))])) rfl rfl (hb hby d8_42)
  have pre4 : ∀ tZ, Steps p.tables e below (T3.setTop (mkF m 45 #[.val (.ref b), .val (.int p1), .val (.int (0 : Int32))] [(.int wi), (.int (0 : Int32))])) tZ → Steps p.tables e below (s₁.setTop (entryFrame m #[(.ref b), (.int p1)] 3)) tZ := fun tZ kZ => pre0 tZ (by
    show Steps p.tables e below (s₁.setTop (mkF m 0 #[.val (.ref b), .val (.int p1), .unset] [])) _
    refine XS.iloadN X0.here hx rfl (hb hby d8_0) rfl  ?_
    show Steps p.tables e below (s₁.setTop (mkF m 1 #[.val (.ref b), .val (.int p1), .unset] [(.int p1)])) _
    refine XS.ifYes X0.here hx rfl (pc0 := 1) (pc' := 31) rfl (hb hby d8_1) rfl ((if0 _ _).trans (flt hp0).2.1) (by decide) (by decide) ?_
    show Steps p.tables e below (s₁.setTop (mkF m 31 #[.val (.ref b), .val (.int p1), .unset] [])) _
    refine XS.aloadN X0.here hx rfl (hb hby d8_31) rfl rfl ?_
    show Steps p.tables e below (s₁.setTop (mkF m 32 #[.val (.ref b), .val (.int p1), .unset] [(.ref b)])) _
    refine st1.trans ?_
    show Steps p.tables e below (T1.setTop (mkF m 35 #[.val (.ref b), .val (.int p1), .unset] [])) _
    refine XS.iloadN X1.here hx rfl (hb hby d8_35) rfl  ?_
    show Steps p.tables e below (T1.setTop (mkF m 36 #[.val (.ref b), .val (.int p1), .unset] [(.int p1)])) _
    refine st2 _ ?_
    show Steps p.tables e below (T2.setTop (mkF m 39 #[.val (.ref b), .val (.int p1), .unset] [(.int (0 : Int32))])) _
    refine XS.istoreN X2.here hx rfl (hb hby d8_39) rfl (l' := #[.val (.ref b), .val (.int p1), .val (.int (0 : Int32))]) rfl ?_
    show Steps p.tables e below (T2.setTop (mkF m 40 #[.val (.ref b), .val (.int p1), .val (.int (0 : Int32))] [])) _
    refine XS.iloadN X2.here hx rfl (hb hby d8_40) rfl  ?_
    show Steps p.tables e below (T2.setTop (mkF m 41 #[.val (.ref b), .val (.int p1), .val (.int (0 : Int32))] [(.int (0 : Int32))])) _
    refine XS.aloadN X2.here hx rfl (hb hby d8_41) rfl rfl ?_
    show Steps p.tables e below (T2.setTop (mkF m 42 #[.val (.ref b), .val (.int p1), .val (.int (0 : Int32))] [(.ref b), (.int (0 : Int32))])) _
    refine st3 _ ?_
    exact kZ)
  by_cases hc5 : (0 : Int32) < wi
  ·  -- yes
    obtain ⟨T6, X6, e6, st6⟩ := getF X3 hx hZ hown (host := "") (Or.inl (ow hw 34 rfl)) Via.refl e3 F2 (g := (mkF m 49 #[.val (.ref b), .val (.int p1), .val (.int (0 : Int32))] [(.ref b)])) rfl rfl (hb hby d8_49)
    obtain ⟨c7, Arc7, qc7, Sc7, Mc7, Hc7, Gc7⟩ := id F3
    have hinc7 : ¬ ((0 : Int32) < 0 ∨ c7.slots.size ≤ ((0 : Int32)).toNatClampNeg) := inb_of Sc7 ⟨by decide, by decide⟩
    have hatc7 : c7.slots[((0 : Int32)).toNatClampNeg]? = some (.long wv) := Hc7.at hinc7 rfl
    have pre8 : ∀ tZ, Steps p.tables e below (T6.setTop (mkF m 60 #[.val (.ref b), .val (.int p1), .val (.int (0 : Int32))] [(.int (lcmpW (wv &&& ((1 : Int64) <<< (p1 &&& 0x3f).toInt64)) (0 : Int64)))])) tZ → Steps p.tables e below (s₁.setTop (entryFrame m #[(.ref b), (.int p1)] 3)) tZ := fun tZ kZ => pre4 tZ (by
      show Steps p.tables e below (T3.setTop (mkF m 45 #[.val (.ref b), .val (.int p1), .val (.int (0 : Int32))] [(.int wi), (.int (0 : Int32))])) _
      refine XS.icmpNo X3.here hx rfl (hb hby d8_45) rfl (tlt hc5).2.1 ?_
      show Steps p.tables e below (T3.setTop (mkF m 48 #[.val (.ref b), .val (.int p1), .val (.int (0 : Int32))] [])) _
      refine XS.aloadN X3.here hx rfl (hb hby d8_48) rfl rfl ?_
      show Steps p.tables e below (T3.setTop (mkF m 49 #[.val (.ref b), .val (.int p1), .val (.int (0 : Int32))] [(.ref b)])) _
      refine st6 _ ?_
      show Steps p.tables e below (T6.setTop (mkF m 52 #[.val (.ref b), .val (.int p1), .val (.int (0 : Int32))] [(.ref wa)])) _
      refine XS.iloadN X6.here hx rfl (hb hby d8_52) rfl  ?_
      show Steps p.tables e below (T6.setTop (mkF m 53 #[.val (.ref b), .val (.int p1), .val (.int (0 : Int32))] [(.int (0 : Int32)), (.ref wa)])) _
      refine X6.laload hx (j := (0 : Int32)) (v := (.long wv)) (by rw [e6]; exact Arc7.1) (State.isArrayOf_alike hZ.alike Arc7.2.1) Arc7.2.2 hinc7 hatc7 (g := (mkF m 53 #[.val (.ref b), .val (.int p1), .val (.int (0 : Int32))] [(.int (0 : Int32)), (.ref wa)])) rfl rfl (hb hby d8_53) _ ?_
      show Steps p.tables e below (T6.setTop (mkF m 54 #[.val (.ref b), .val (.int p1), .val (.int (0 : Int32))] [(.long wv)])) _
      refine XS.lconst X6.here hx rfl (hb hby d8_54) ?_
      show Steps p.tables e below (T6.setTop (mkF m 55 #[.val (.ref b), .val (.int p1), .val (.int (0 : Int32))] [(.long (1 : Int64)), (.long wv)])) _
      refine XS.iloadN X6.here hx rfl (hb hby d8_55) rfl  ?_
      show Steps p.tables e below (T6.setTop (mkF m 56 #[.val (.ref b), .val (.int p1), .val (.int (0 : Int32))] [(.int p1), (.long (1 : Int64)), (.long wv)])) _
      refine XS.lshl X6.here hx rfl (hb hby d8_56) rfl ?_
      show Steps p.tables e below (T6.setTop (mkF m 57 #[.val (.ref b), .val (.int p1), .val (.int (0 : Int32))] [(.long ((1 : Int64) <<< (p1 &&& 0x3f).toInt64)), (.long wv)])) _
      refine XS.land X6.here hx rfl (hb hby d8_57) rfl ?_
      show Steps p.tables e below (T6.setTop (mkF m 58 #[.val (.ref b), .val (.int p1), .val (.int (0 : Int32))] [(.long (wv &&& ((1 : Int64) <<< (p1 &&& 0x3f).toInt64)))])) _
      refine XS.lconst X6.here hx rfl (hb hby d8_58) ?_
      show Steps p.tables e below (T6.setTop (mkF m 59 #[.val (.ref b), .val (.int p1), .val (.int (0 : Int32))] [(.long (0 : Int64)), (.long (wv &&& ((1 : Int64) <<< (p1 &&& 0x3f).toInt64)))])) _
      refine XS.lcmp X6.here hx rfl (hb hby d8_59) rfl ?_
      exact kZ)
    by_cases hc9 : (wv &&& ((1 : Int64) <<< (p1 &&& 0x3f).toInt64)) = (0 : Int64)
    ·  -- yes
      obtain ⟨fsZ, hrZ, hrun, hended, hW, hsame⟩ := X6.leave (v := some (.int (0 : Int32))) (fun h => by rw [Bd.returns] at h; cases h)
      refine ⟨_, _, pre8 _ ?_, hrun, hended, _, _, rfl, ?_, ⟨_, rfl⟩, hW, hsame.mono (by decide) (by decide)⟩
      · show Steps p.tables e below (T6.setTop (mkF m 60 #[.val (.ref b), .val (.int p1), .val (.int (0 : Int32))] [(.int (lcmpW (wv &&& ((1 : Int64) <<< (p1 &&& 0x3f).toInt64)) (0 : Int64)))])) _
        refine XS.ifYes X6.here hx rfl (pc0 := 60) (pc' := 67) rfl (hb hby d8_60) rfl ((if0 _ _).trans (teq ((lw_eq _ _).mpr hc9)).1) (by decide) (by decide) ?_
        show Steps p.tables e below (T6.setTop (mkF m 67 #[.val (.ref b), .val (.int p1), .val (.int (0 : Int32))] [])) _
        refine XS.iconst X6.here hx rfl (hb hby d8_67) ?_
        show Steps p.tables e below (T6.setTop (mkF m 68 #[.val (.ref b), .val (.int p1), .val (.int (0 : Int32))] [(.int (0 : Int32))])) _
        exact retN X6 hx (t := .boolean) Bd.returns (by simp) (hb hby d8_68) hrZ
      · show Q8 Z b p1 wa kl wi wv h0 n0 _ T6.heap _
        rw [e6]
        exact ⟨(congrArg (fun z => some (Value.int z)) (by first | rfl | (simp only [own_b, if_pos hc5, if_pos hc9]; done) | (simp only [own_b, eq_true hc5, eq_true hc9, and_true, true_and, and_false, false_and, or_true, true_or, or_false, false_or, not_true_eq_false, not_false_eq_true, if_true, if_false, reduceIte]; done) | (simp [own_b, hc5, hc9]; done))), N2, rfl⟩
    ·  -- no
      obtain ⟨fsZ, hrZ, hrun, hended, hW, hsame⟩ := X6.leave (v := some (.int (1 : Int32))) (fun h => by rw [Bd.returns] at h; cases h)
      refine ⟨_, _, pre8 _ ?_, hrun, hended, _, _, rfl, ?_, ⟨_, rfl⟩, hW, hsame.mono (by decide) (by decide)⟩
      · show Steps p.tables e below (T6.setTop (mkF m 60 #[.val (.ref b), .val (.int p1), .val (.int (0 : Int32))] [(.int (lcmpW (wv &&& ((1 : Int64) <<< (p1 &&& 0x3f).toInt64)) (0 : Int64)))])) _
        refine XS.ifNo X6.here hx rfl (hb hby d8_60) rfl ((if0 _ _).trans (feq (fun q => absurd ((lw_eq _ _).mp q) hc9)).1) ?_
        show Steps p.tables e below (T6.setTop (mkF m 63 #[.val (.ref b), .val (.int p1), .val (.int (0 : Int32))] [])) _
        refine XS.iconst X6.here hx rfl (hb hby d8_63) ?_
        show Steps p.tables e below (T6.setTop (mkF m 64 #[.val (.ref b), .val (.int p1), .val (.int (0 : Int32))] [(.int (1 : Int32))])) _
        refine XS.goto X6.here hx rfl (pc0 := 64) (pc' := 68) rfl (hb hby d8_64) (by decide) (by decide) ?_
        show Steps p.tables e below (T6.setTop (mkF m 68 #[.val (.ref b), .val (.int p1), .val (.int (0 : Int32))] [(.int (1 : Int32))])) _
        exact retN X6 hx (t := .boolean) Bd.returns (by simp) (hb hby d8_68) hrZ
      · show Q8 Z b p1 wa kl wi wv h0 n0 _ T6.heap _
        rw [e6]
        exact ⟨(congrArg (fun z => some (Value.int z)) (by first | rfl | (simp only [own_b, if_pos hc5, if_neg hc9]; done) | (simp only [own_b, eq_true hc5, eq_false hc9, and_true, true_and, and_false, false_and, or_true, true_or, or_false, false_or, not_true_eq_false, not_false_eq_true, if_true, if_false, reduceIte]; done) | (simp [own_b, hc5, hc9]; done))), N2, rfl⟩
  ·  -- no
    obtain ⟨fsZ, hrZ, hrun, hended, hW, hsame⟩ := X3.leave (v := some (.int (0 : Int32))) (fun h => by rw [Bd.returns] at h; cases h)
    refine ⟨_, _, pre4 _ ?_, hrun, hended, _, _, rfl, ?_, ⟨_, rfl⟩, hW, hsame.mono (by decide) (by decide)⟩
    · show Steps p.tables e below (T3.setTop (mkF m 45 #[.val (.ref b), .val (.int p1), .val (.int (0 : Int32))] [(.int wi), (.int (0 : Int32))])) _
      refine XS.icmpYes X3.here hx rfl (pc0 := 45) (pc' := 67) rfl (hb hby d8_45) rfl (flt hc5).2.1 (by decide) (by decide) ?_
      show Steps p.tables e below (T3.setTop (mkF m 67 #[.val (.ref b), .val (.int p1), .val (.int (0 : Int32))] [])) _
      refine XS.iconst X3.here hx rfl (hb hby d8_67) ?_
      show Steps p.tables e below (T3.setTop (mkF m 68 #[.val (.ref b), .val (.int p1), .val (.int (0 : Int32))] [(.int (0 : Int32))])) _
      exact retN X3 hx (t := .boolean) Bd.returns (by simp) (hb hby d8_68) hrZ
    · show Q8 Z b p1 wa kl wi wv h0 n0 _ T3.heap _
      rw [e3]
      exact ⟨(congrArg (fun z => some (Value.int z)) (by first | rfl | (simp only [own_b, if_neg hc5]; done) | (simp only [own_b, eq_false hc5, and_true, true_and, and_false, false_and, or_true, true_or, or_false, false_or, not_true_eq_false, not_false_eq_true, if_true, if_false, reduceIte]; done) | (simp [own_b, hc5]; done))), N2, rfl⟩
theorem d15_0 : decode jdk_92_method_3_code 0 = .ok (.aload_n 0, 1) := by decide +kernel
theorem d15_1 : decode jdk_92_method_3_code 1 = .ok (.getfield 7, 3) := by decide +kernel
theorem d15_4 : decode jdk_92_method_3_code 4 = .ok (.iconst 1, 1) := by decide +kernel
theorem d15_5 : decode jdk_92_method_3_code 5 = .ok (.isub, 1) := by decide +kernel
theorem d15_6 : decode jdk_92_method_3_code 6 = .ok (.istore_n 1, 1) := by decide +kernel
theorem d15_7 : decode jdk_92_method_3_code 7 = .ok (.iload_n 1, 1) := by decide +kernel
theorem d15_8 : decode jdk_92_method_3_code 8 = .ok (.ifCond .lt 23, 3) := by decide +kernel
theorem d15_11 : decode jdk_92_method_3_code 11 = .ok (.aload_n 0, 1) := by decide +kernel
theorem d15_12 : decode jdk_92_method_3_code 12 = .ok (.getfield 11, 3) := by decide +kernel
theorem d15_15 : decode jdk_92_method_3_code 15 = .ok (.iload_n 1, 1) := by decide +kernel
theorem d15_16 : decode jdk_92_method_3_code 16 = .ok (.laload, 1) := by decide +kernel
theorem d15_17 : decode jdk_92_method_3_code 17 = .ok (.lconst 0, 1) := by decide +kernel
theorem d15_18 : decode jdk_92_method_3_code 18 = .ok (.lcmp, 1) := by decide +kernel
theorem d15_19 : decode jdk_92_method_3_code 19 = .ok (.ifCond .eq 6, 3) := by decide +kernel
theorem d15_25 : decode jdk_92_method_3_code 25 = .ok (.iinc 1 (-1), 3) := by decide +kernel
theorem d15_28 : decode jdk_92_method_3_code 28 = .ok (.goto (-21), 3) := by decide +kernel
theorem d15_31 : decode jdk_92_method_3_code 31 = .ok (.aload_n 0, 1) := by decide +kernel
theorem d15_32 : decode jdk_92_method_3_code 32 = .ok (.iload_n 1, 1) := by decide +kernel
theorem d15_33 : decode jdk_92_method_3_code 33 = .ok (.iconst 1, 1) := by decide +kernel
theorem d15_34 : decode jdk_92_method_3_code 34 = .ok (.iadd, 1) := by decide +kernel
theorem d15_35 : decode jdk_92_method_3_code 35 = .ok (.putfield 7, 3) := by decide +kernel
theorem d15_38 : decode jdk_92_method_3_code 38 = .ok (.return_, 1) := by decide +kernel
theorem d15_22 : decode jdk_92_method_3_code 22 = .ok (.goto 9, 3) := by decide +kernel
theorem ef15 (m : MethodId) (b : Addr) : entryFrame m #[(.ref b)] 2 = mkF m 0 #[.val (.ref b), .unset] [] := by first | (simp [entryFrame, mkF, argsToLocals, Value.category]; done) | rfl
def Q15 (Z : State) (b : Addr) (wa : Addr) (kl : ClassId) (wv : Int64) (h0 : Heap) (n0 : Nat) (v : Option Value) (h : Heap) (L : List Loc) : Prop := v = none ∧ Fr n0 L ∧ Keep h0 h [b, wa] ∧ Exa Z h b "java/util/BitSet" ∧ Fld Z h b "java/util/BitSet" "wordsInUse" "I" (.int (own_b (¬ (wv = (0 : Int64))))) ∧ Fld Z h b "java/util/BitSet" "words" "[J" (.ref wa) ∧ Arv Z h wa kl .long (1 : Int32) [(.long wv)] (.long (0 : Int64))
set_option maxRecDepth 65536 in
set_option maxHeartbeats 40000000 in
theorem rm15 (l : Launch) (Z : State) (a0 : Array Value) (hw : ∀ d ∈ tables_1, d.before a0 Z = true) (ws : List Jvm.Cond) (b : Addr) (wa : Addr) (kl : ClassId) (wv : Int64) (h0 : Heap) (n0 : Nat) (Z0 : n0 ≤ h0.size) (F0 : Exa Z h0 b "java/util/BitSet") (F1 : Fld Z h0 b "java/util/BitSet" "wordsInUse" "I" (.int (1 : Int32))) (F2 : Fld Z h0 b "java/util/BitSet" "words" "[J" (.ref wa)) (F3 : Arv Z h0 wa kl .long (1 : Int32) [(.long wv)] (.long (0 : Int64))) (g1 : n0 ≤ b) (g2 : n0 ≤ wa) (n1 : b ≠ wa) :
    MetFree l (⟨"java/util/BitSet", "recalculateWordsInUse", "()V"⟩ : MethodName) (head1 (Jvm.Cond.code (⟨"java/util/BitSet", "recalculateWordsInUse", "()V"⟩ : MethodName) jdk_92_method_3_code 2 none :: ws) ({ frames := 0, cells := 0, slots := 0, locals := 0 } : Room)) (fun a U => a = #[(.ref b)] ∧ Z.Warmed39 U.vm ∧ U.heap = h0) (fun _ _ _ _ _ => True) (fun _ U o U' => ∃ v L, o = .returned v ∧ Q15 Z b wa kl wv h0 n0 v U'.heap L ∧ FrameEnd U o U' L ({ frames := 0, cells := 0, slots := 0, locals := 0 } : Room).cells ({ frames := 0, cells := 0, slots := 0, locals := 0 } : Room).slots) := by
  refine MetFree.of_bodySF (plainFor_of_name pn0) hisR ?_
  intro p e s m args below meth c s₁ Bd hml0 hP hK
  obtain ⟨rfl, hZ, hh⟩ := hP
  have hx := Bd.exec
  have hby := Bd.bytes
  have hml : c.maxLocals = 2 := hml0
  have hown : s.vm.findClass "java/util/BitSet" = some m.cls := findClass_of_methodNamed Bd.named
  have hnm := (name_of_methodNamed Bd.named Bd.method).1
  have X0 : Stand p l e ({ frames := 0, cells := 0, slots := 0, locals := 0 } : Room) s m #[(.ref b)] below meth c s₁ [] 0 0 := Stand.of_body Bd
  have e0 : s₁.heap = h0 := by rw [← hh, Bd.state]; rfl
  have N0 := Fr.nil n0
  have pre0 : ∀ tZ, Steps p.tables e below (s₁.setTop (mkF m 0 #[.val (.ref b), .unset] [])) tZ → Steps p.tables e below (s₁.setTop (entryFrame m #[(.ref b)] 2)) tZ := fun tZ kZ => castTop (ef15 m b) kZ
  obtain ⟨T1, X1, e1, st1⟩ := getF X0 hx hZ hown (host := "") (Or.inl (ow hw 21 rfl)) Via.refl e0 F1 (g := (mkF m 1 #[.val (.ref b), .unset] [(.ref b)])) rfl rfl (hb hby d15_1)
  obtain ⟨T2, X2, e2, st2⟩ := getF X1 hx hZ hown (host := "") (Or.inl (ow hw 34 rfl)) Via.refl e1 F2 (g := (mkF m 12 #[.val (.ref b), .val (.int (0 : Int32))] [(.ref b)])) rfl rfl (hb hby d15_12)
  obtain ⟨c3, Arc3, qc3, Sc3, Mc3, Hc3, Gc3⟩ := id F3
  have hinc3 : ¬ ((0 : Int32) < 0 ∨ c3.slots.size ≤ ((0 : Int32)).toNatClampNeg) := inb_of Sc3 ⟨by decide, by decide⟩
  have hatc3 : c3.slots[((0 : Int32)).toNatClampNeg]? = some (.long wv) := Hc3.at hinc3 rfl
  have pre4 : ∀ tZ, Steps p.tables e below (T2.setTop (mkF m 19 #[.val (.ref b), .val (.int (0 : Int32))] [(.int (lcmpW wv (0 : Int64)))])) tZ → Steps p.tables e below (s₁.setTop (entryFrame m #[(.ref b)] 2)) tZ := fun tZ kZ => pre0 tZ (by
    show Steps p.tables e below (s₁.setTop (mkF m 0 #[.val (.ref b), .unset] [])) _
    refine XS.aloadN X0.here hx rfl (hb hby d15_0) rfl rfl ?_
    show Steps p.tables e below (s₁.setTop (mkF m 1 #[.val (.ref b), .unset] [(.ref b)])) _
    refine st1 _ ?_
    show Steps p.tables e below (T1.setTop (mkF m 4 #[.val (.ref b), .unset] [(.int (1 : Int32))])) _
    refine XS.iconst X1.here hx rfl (hb hby d15_4) ?_
    show Steps p.tables e below (T1.setTop (mkF m 5 #[.val (.ref b), .unset] [(.int (1 : Int32)), (.int (1 : Int32))])) _
    refine XS.isub X1.here hx rfl (hb hby d15_5) rfl ?_
    show Steps p.tables e below (T1.setTop (mkF m 6 #[.val (.ref b), .unset] [(.int ((1 : Int32) - (1 : Int32)))])) _
    rw [show ((1 : Int32) - (1 : Int32)) = (0 : Int32) from by decide]
    show Steps p.tables e below (T1.setTop (mkF m 6 #[.val (.ref b), .unset] [(.int (0 : Int32))])) _
    refine XS.istoreN X1.here hx rfl (hb hby d15_6) rfl (l' := #[.val (.ref b), .val (.int (0 : Int32))]) rfl ?_
    show Steps p.tables e below (T1.setTop (mkF m 7 #[.val (.ref b), .val (.int (0 : Int32))] [])) _
    refine XS.iloadN X1.here hx rfl (hb hby d15_7) rfl  ?_
    show Steps p.tables e below (T1.setTop (mkF m 8 #[.val (.ref b), .val (.int (0 : Int32))] [(.int (0 : Int32))])) _
    refine XS.ifNo X1.here hx rfl (hb hby d15_8) rfl ((if0 _ _).trans (flt (by decide)).1) ?_
    show Steps p.tables e below (T1.setTop (mkF m 11 #[.val (.ref b), .val (.int (0 : Int32))] [])) _
    refine XS.aloadN X1.here hx rfl (hb hby d15_11) rfl rfl ?_
    show Steps p.tables e below (T1.setTop (mkF m 12 #[.val (.ref b), .val (.int (0 : Int32))] [(.ref b)])) _
    refine st2 _ ?_
    show Steps p.tables e below (T2.setTop (mkF m 15 #[.val (.ref b), .val (.int (0 : Int32))] [(.ref wa)])) _
    refine XS.iloadN X2.here hx rfl (hb hby d15_15) rfl  ?_
    show Steps p.tables e below (T2.setTop (mkF m 16 #[.val (.ref b), .val (.int (0 : Int32))] [(.int (0 : Int32)), (.ref wa)])) _
    refine X2.laload hx (j := (0 : Int32)) (v := (.long wv)) (by rw [e2]; exact Arc3.1) (State.isArrayOf_alike hZ.alike Arc3.2.1) Arc3.2.2 hinc3 hatc3 (g := (mkF m 16 #[.val (.ref b), .val (.int (0 : Int32))] [(.int (0 : Int32)), (.ref wa)])) rfl rfl (hb hby d15_16) _ ?_
    show Steps p.tables e below (T2.setTop (mkF m 17 #[.val (.ref b), .val (.int (0 : Int32))] [(.long wv)])) _
    refine XS.lconst X2.here hx rfl (hb hby d15_17) ?_
    show Steps p.tables e below (T2.setTop (mkF m 18 #[.val (.ref b), .val (.int (0 : Int32))] [(.long (0 : Int64)), (.long wv)])) _
    refine XS.lcmp X2.here hx rfl (hb hby d15_18) rfl ?_
    exact kZ)
  by_cases hc5 : wv = (0 : Int64)
  ·  -- yes
    obtain ⟨T6, h6, X6, e6, W6, st6⟩ := putF X2 hx hZ hown (host := "") (Or.inl (ow hw 21 rfl)) Via.refl e2 F1 F0 (Or.inl (ow hw 22 rfl)) (ow hw 15 rfl) (ty := .int) (by decide) rfl rfl (g := (mkF m 35 #[.val (.ref b), .val (.int (-1 : Int32))] [(.int (0 : Int32)), (.ref b)])) rfl rfl (hb hby d15_35)
    have fw6 : Fld Z h6 b "java/util/BitSet" "wordsInUse" "I" (.int (0 : Int32)) := F1.same W6
    have Z7 : n0 ≤ h6.size := Nat.le_trans Z0 (Nat.le_of_eq W6.size.symm)
    have K8 : Keep h0 h6 [b, wa] := (Keep.refl h0 [b, wa]).wr W6 (Or.inl (List.mem_of_getElem? (i := 0) rfl))
    have N6 := Fr.snoc X6 N0 g1
    obtain ⟨fsZ, hrZ, hrun, hended, hW, hsame⟩ := X6.leave (v := none) (fun _ => rfl)
    have fa9 : Exa Z h6 b "java/util/BitSet" := (F0.wr W6)
    have q10 : Fld Z h6 b "java/util/BitSet" "wordsInUse" "I" (.int (own_b (¬ (wv = (0 : Int64))))) := by rw [show (own_b (¬ (wv = (0 : Int64)))) = (0 : Int32) from (by first | rfl | (simp only [own_b, if_pos hc5]; done) | (simp only [own_b, eq_true hc5, and_true, true_and, and_false, false_and, or_true, true_or, or_false, false_or, not_true_eq_false, not_false_eq_true, if_true, if_false, reduceIte]; done) | (simp [own_b, hc5]; done))]; exact fw6
    have fa11 : Fld Z h6 b "java/util/BitSet" "words" "[J" (.ref wa) := (F2.other W6 (Or.inr (slot_ne (Or.inl (ow hw 35 rfl)) (Or.inl (ow hw 22 rfl)) (by decide) (t := (.array .long)) (t' := .int) (by decide) (by decide))))
    have fa12 : Arv Z h6 wa kl .long (1 : Int32) [(.long wv)] (.long (0 : Int64)) := (F3.other W6 (Ne.symm n1))
    refine ⟨_, _, pre4 _ ?_, hrun, hended, _, _, rfl, ?_, ⟨_, rfl⟩, hW, hsame.mono (by decide) (by decide)⟩
    · show Steps p.tables e below (T2.setTop (mkF m 19 #[.val (.ref b), .val (.int (0 : Int32))] [(.int (lcmpW wv (0 : Int64)))])) _
      refine XS.ifYes X2.here hx rfl (pc0 := 19) (pc' := 25) rfl (hb hby d15_19) rfl ((if0 _ _).trans (teq ((lw_eq _ _).mpr hc5)).1) (by decide) (by decide) ?_
      show Steps p.tables e below (T2.setTop (mkF m 25 #[.val (.ref b), .val (.int (0 : Int32))] [])) _
      refine XS.iinc X2.here hx rfl (hb hby d15_25) rfl (l' := #[.val (.ref b), .val (.int ((0 : Int32) + (-1 : Int32)))]) rfl ?_
      show Steps p.tables e below (T2.setTop (mkF m 28 #[.val (.ref b), .val (.int ((0 : Int32) + (-1 : Int32)))] [])) _
      rw [show ((0 : Int32) + (-1 : Int32)) = (-1 : Int32) from by decide]
      show Steps p.tables e below (T2.setTop (mkF m 28 #[.val (.ref b), .val (.int (-1 : Int32))] [])) _
      refine XS.goto X2.here hx rfl (pc0 := 28) (pc' := 7) rfl (hb hby d15_28) (by decide) (by decide) ?_
      show Steps p.tables e below (T2.setTop (mkF m 7 #[.val (.ref b), .val (.int (-1 : Int32))] [])) _
      refine XS.iloadN X2.here hx rfl (hb hby d15_7) rfl  ?_
      show Steps p.tables e below (T2.setTop (mkF m 8 #[.val (.ref b), .val (.int (-1 : Int32))] [(.int (-1 : Int32))])) _
      refine XS.ifYes X2.here hx rfl (pc0 := 8) (pc' := 31) rfl (hb hby d15_8) rfl ((if0 _ _).trans (tlt (by decide)).1) (by decide) (by decide) ?_
      show Steps p.tables e below (T2.setTop (mkF m 31 #[.val (.ref b), .val (.int (-1 : Int32))] [])) _
      refine XS.aloadN X2.here hx rfl (hb hby d15_31) rfl rfl ?_
      show Steps p.tables e below (T2.setTop (mkF m 32 #[.val (.ref b), .val (.int (-1 : Int32))] [(.ref b)])) _
      refine XS.iloadN X2.here hx rfl (hb hby d15_32) rfl  ?_
      show Steps p.tables e below (T2.setTop (mkF m 33 #[.val (.ref b), .val (.int (-1 : Int32))] [(.int (-1 : Int32)), (.ref b)])) _
      refine XS.iconst X2.here hx rfl (hb hby d15_33) ?_
      show Steps p.tables e below (T2.setTop (mkF m 34 #[.val (.ref b), .val (.int (-1 : Int32))] [(.int (1 : Int32)), (.int (-1 : Int32)), (.ref b)])) _
      refine XS.iadd X2.here hx rfl (hb hby d15_34) rfl ?_
      show Steps p.tables e below (T2.setTop (mkF m 35 #[.val (.ref b), .val (.int (-1 : Int32))] [(.int ((-1 : Int32) + (1 : Int32))), (.ref b)])) _
      rw [show ((-1 : Int32) + (1 : Int32)) = (0 : Int32) from by decide]
      show Steps p.tables e below (T2.setTop (mkF m 35 #[.val (.ref b), .val (.int (-1 : Int32))] [(.int (0 : Int32)), (.ref b)])) _
      refine st6 _ ?_
      show Steps p.tables e below (T6.setTop (mkF m 38 #[.val (.ref b), .val (.int (-1 : Int32))] [])) _
      exact X6.returnOut hx Bd.returns (hb hby d15_38) hrZ
    · show Q15 Z b wa kl wv h0 n0 _ T6.heap _
      rw [e6]
      exact ⟨rfl, N6, K8, fa9, q10, fa11, fa12⟩
  ·  -- no
    obtain ⟨T13, h13, X13, e13, W13, st13⟩ := putF X2 hx hZ hown (host := "") (Or.inl (ow hw 21 rfl)) Via.refl e2 F1 F0 (Or.inl (ow hw 22 rfl)) (ow hw 15 rfl) (ty := .int) (by decide) rfl rfl (g := (mkF m 35 #[.val (.ref b), .val (.int (0 : Int32))] [(.int (1 : Int32)), (.ref b)])) rfl rfl (hb hby d15_35)
    have fw13 : Fld Z h13 b "java/util/BitSet" "wordsInUse" "I" (.int (1 : Int32)) := F1.same W13
    have Z14 : n0 ≤ h13.size := Nat.le_trans Z0 (Nat.le_of_eq W13.size.symm)
    have K15 : Keep h0 h13 [b, wa] := (Keep.refl h0 [b, wa]).wr W13 (Or.inl (List.mem_of_getElem? (i := 0) rfl))
    have N13 := Fr.snoc X13 N0 g1
    obtain ⟨fsZ, hrZ, hrun, hended, hW, hsame⟩ := X13.leave (v := none) (fun _ => rfl)
    have fa16 : Exa Z h13 b "java/util/BitSet" := (F0.wr W13)
    have q17 : Fld Z h13 b "java/util/BitSet" "wordsInUse" "I" (.int (own_b (¬ (wv = (0 : Int64))))) := by rw [show (own_b (¬ (wv = (0 : Int64)))) = (1 : Int32) from (by first | rfl | (simp only [own_b, if_neg hc5]; done) | (simp only [own_b, eq_false hc5, and_true, true_and, and_false, false_and, or_true, true_or, or_false, false_or, not_true_eq_false, not_false_eq_true, if_true, if_false, reduceIte]; done) | (simp [own_b, hc5]; done))]; exact fw13
    have fa18 : Fld Z h13 b "java/util/BitSet" "words" "[J" (.ref wa) := (F2.other W13 (Or.inr (slot_ne (Or.inl (ow hw 35 rfl)) (Or.inl (ow hw 22 rfl)) (by decide) (t := (.array .long)) (t' := .int) (by decide) (by decide))))
    have fa19 : Arv Z h13 wa kl .long (1 : Int32) [(.long wv)] (.long (0 : Int64)) := (F3.other W13 (Ne.symm n1))
    refine ⟨_, _, pre4 _ ?_, hrun, hended, _, _, rfl, ?_, ⟨_, rfl⟩, hW, hsame.mono (by decide) (by decide)⟩
    · show Steps p.tables e below (T2.setTop (mkF m 19 #[.val (.ref b), .val (.int (0 : Int32))] [(.int (lcmpW wv (0 : Int64)))])) _
      refine XS.ifNo X2.here hx rfl (hb hby d15_19) rfl ((if0 _ _).trans (feq (fun q => absurd ((lw_eq _ _).mp q) hc5)).1) ?_
      show Steps p.tables e below (T2.setTop (mkF m 22 #[.val (.ref b), .val (.int (0 : Int32))] [])) _
      refine XS.goto X2.here hx rfl (pc0 := 22) (pc' := 31) rfl (hb hby d15_22) (by decide) (by decide) ?_
      show Steps p.tables e below (T2.setTop (mkF m 31 #[.val (.ref b), .val (.int (0 : Int32))] [])) _
      refine XS.aloadN X2.here hx rfl (hb hby d15_31) rfl rfl ?_
      show Steps p.tables e below (T2.setTop (mkF m 32 #[.val (.ref b), .val (.int (0 : Int32))] [(.ref b)])) _
      refine XS.iloadN X2.here hx rfl (hb hby d15_32) rfl  ?_
      show Steps p.tables e below (T2.setTop (mkF m 33 #[.val (.ref b), .val (.int (0 : Int32))] [(.int (0 : Int32)), (.ref b)])) _
      refine XS.iconst X2.here hx rfl (hb hby d15_33) ?_
      show Steps p.tables e below (T2.setTop (mkF m 34 #[.val (.ref b), .val (.int (0 : Int32))] [(.int (1 : Int32)), (.int (0 : Int32)), (.ref b)])) _
      refine XS.iadd X2.here hx rfl (hb hby d15_34) rfl ?_
      show Steps p.tables e below (T2.setTop (mkF m 35 #[.val (.ref b), .val (.int (0 : Int32))] [(.int ((0 : Int32) + (1 : Int32))), (.ref b)])) _
      rw [show ((0 : Int32) + (1 : Int32)) = (1 : Int32) from by decide]
      show Steps p.tables e below (T2.setTop (mkF m 35 #[.val (.ref b), .val (.int (0 : Int32))] [(.int (1 : Int32)), (.ref b)])) _
      refine st13 _ ?_
      show Steps p.tables e below (T13.setTop (mkF m 38 #[.val (.ref b), .val (.int (0 : Int32))] [])) _
      exact X13.returnOut hx Bd.returns (hb hby d15_38) hrZ
    · show Q15 Z b wa kl wv h0 n0 _ T13.heap _
      rw [e13]
      exact ⟨rfl, N13, K15, fa16, q17, fa18, fa19⟩
theorem d14_0 : decode jdk_92_method_23_code 0 = .ok (.iload_n 1, 1) := by decide +kernel
theorem d14_1 : decode jdk_92_method_23_code 1 = .ok (.ifCond .ge 30, 3) := by decide +kernel
theorem d14_31 : decode jdk_92_method_23_code 31 = .ok (.iload_n 1, 1) := by decide +kernel
theorem d14_32 : decode jdk_92_method_23_code 32 = .ok (.invokestatic 52, 3) := by decide +kernel
theorem d14_35 : decode jdk_92_method_23_code 35 = .ok (.istore_n 2, 1) := by decide +kernel
theorem d14_36 : decode jdk_92_method_23_code 36 = .ok (.iload_n 2, 1) := by decide +kernel
theorem d14_37 : decode jdk_92_method_23_code 37 = .ok (.aload_n 0, 1) := by decide +kernel
theorem d14_38 : decode jdk_92_method_23_code 38 = .ok (.getfield 7, 3) := by decide +kernel
theorem d14_41 : decode jdk_92_method_23_code 41 = .ok (.if_icmp .lt 4, 3) := by decide +kernel
theorem d14_45 : decode jdk_92_method_23_code 45 = .ok (.aload_n 0, 1) := by decide +kernel
theorem d14_46 : decode jdk_92_method_23_code 46 = .ok (.getfield 11, 3) := by decide +kernel
theorem d14_49 : decode jdk_92_method_23_code 49 = .ok (.iload_n 2, 1) := by decide +kernel
theorem d14_50 : decode jdk_92_method_23_code 50 = .ok (.dup2, 1) := by decide +kernel
theorem d14_51 : decode jdk_92_method_23_code 51 = .ok (.laload, 1) := by decide +kernel
theorem d14_52 : decode jdk_92_method_23_code 52 = .ok (.lconst 1, 1) := by decide +kernel
theorem d14_53 : decode jdk_92_method_23_code 53 = .ok (.iload_n 1, 1) := by decide +kernel
theorem d14_54 : decode jdk_92_method_23_code 54 = .ok (.lshl, 1) := by decide +kernel
theorem d14_55 : decode jdk_92_method_23_code 55 = .ok (.ldc2_w 165, 3) := by decide +kernel
theorem d14_58 : decode jdk_92_method_23_code 58 = .ok (.lxor, 1) := by decide +kernel
theorem d14_59 : decode jdk_92_method_23_code 59 = .ok (.land, 1) := by decide +kernel
theorem d14_60 : decode jdk_92_method_23_code 60 = .ok (.lastore, 1) := by decide +kernel
theorem d14_61 : decode jdk_92_method_23_code 61 = .ok (.aload_n 0, 1) := by decide +kernel
theorem d14_62 : decode jdk_92_method_23_code 62 = .ok (.invokevirtual 158, 3) := by decide +kernel
theorem d14_65 : decode jdk_92_method_23_code 65 = .ok (.aload_n 0, 1) := by decide +kernel
theorem d14_66 : decode jdk_92_method_23_code 66 = .ok (.invokevirtual 56, 3) := by decide +kernel
theorem d14_69 : decode jdk_92_method_23_code 69 = .ok (.return_, 1) := by decide +kernel
theorem d14_44 : decode jdk_92_method_23_code 44 = .ok (.return_, 1) := by decide +kernel
theorem ef14 (m : MethodId) (b : Addr) (p1 : Int32) : entryFrame m #[(.ref b), (.int p1)] 3 = mkF m 0 #[.val (.ref b), .val (.int p1), .unset] [] := by first | (simp [entryFrame, mkF, argsToLocals, Value.category]; done) | rfl
def Q14 (Z : State) (b : Addr) (p1 : Int32) (wa : Addr) (kl : ClassId) (wi : Int32) (wv : Int64) (h0 : Heap) (n0 : Nat) (v : Option Value) (h : Heap) (L : List Loc) : Prop := ∃ (wn : Int32) (vn : Int64), v = none ∧ Fr n0 L ∧ Keep h0 h [b, wa] ∧ (wn = (0 : Int32) ∨ wn = (1 : Int32)) ∧ Exa Z h b "java/util/BitSet" ∧ Fld Z h b "java/util/BitSet" "wordsInUse" "I" (.int wn) ∧ Fld Z h b "java/util/BitSet" "words" "[J" (.ref wa) ∧ Arv Z h wa kl .long (1 : Int32) [(.long vn)] (.long (0 : Int64))
set_option maxRecDepth 65536 in
set_option maxHeartbeats 40000000 in
theorem rm14 (l : Launch) (Z : State) (a0 : Array Value) (hw : ∀ d ∈ tables_1, d.before a0 Z = true) (ws : List Jvm.Cond) (b : Addr) (p1 : Int32) (wa : Addr) (kl : ClassId) (wi : Int32) (wv : Int64) (h0 : Heap) (n0 : Nat) (Z0 : n0 ≤ h0.size) (F0 : Exa Z h0 b "java/util/BitSet") (F1 : Fld Z h0 b "java/util/BitSet" "wordsInUse" "I" (.int wi)) (F2 : Fld Z h0 b "java/util/BitSet" "words" "[J" (.ref wa)) (F3 : Arv Z h0 wa kl .long (1 : Int32) [(.long wv)] (.long (0 : Int64))) (hp0 : ¬ (p1 < (0 : Int32))) (hp6 : ¬ ((63 : Int32) < p1)) (hwi : wi = (0 : Int32) ∨ wi = (1 : Int32)) (S1 : Sta Z Z.heap "java/util/BitSet" "$assertionsDisabled" "Z" (.int (1 : Int32))) (O1 : Old Z n0 h0) (g1 : n0 ≤ b) (g2 : n0 ≤ wa) (n1 : b ≠ wa) :
    MetFree l (⟨"java/util/BitSet", "clear", "(I)V"⟩ : MethodName) (head1 (Jvm.Cond.code (⟨"java/util/BitSet", "clear", "(I)V"⟩ : MethodName) jdk_92_method_23_code 3 none :: ws) ({ frames := 1, cells := 0, slots := 0, locals := 13 } : Room)) (fun a U => a = #[(.ref b), (.int p1)] ∧ Z.Warmed39 U.vm ∧ U.heap = h0) (fun _ _ _ _ _ => True) (fun _ U o U' => ∃ v L, o = .returned v ∧ Q14 Z b p1 wa kl wi wv h0 n0 v U'.heap L ∧ FrameEnd U o U' L ({ frames := 1, cells := 0, slots := 0, locals := 13 } : Room).cells ({ frames := 1, cells := 0, slots := 0, locals := 13 } : Room).slots) := by
  refine MetFree.of_bodySF (plainFor_of_name pn0) hisR ?_
  intro p e s m args below meth c s₁ Bd hml0 hP hK
  obtain ⟨rfl, hZ, hh⟩ := hP
  have hx := Bd.exec
  have hby := Bd.bytes
  have hml : c.maxLocals = 3 := hml0
  have hown : s.vm.findClass "java/util/BitSet" = some m.cls := findClass_of_methodNamed Bd.named
  have hnm := (name_of_methodNamed Bd.named Bd.method).1
  have X0 : Stand p l e ({ frames := 1, cells := 0, slots := 0, locals := 13 } : Room) s m #[(.ref b), (.int p1)] below meth c s₁ [] 0 0 := Stand.of_body Bd
  have e0 : s₁.heap = h0 := by rw [← hh, Bd.state]; rfl
  have N0 := Fr.nil n0
  have pre0 : ∀ tZ, Steps p.tables e below (s₁.setTop (mkF m 0 #[.val (.ref b), .val (.int p1), .unset] [])) tZ → Steps p.tables e below (s₁.setTop (entryFrame m #[(.ref b), (.int p1)] 3)) tZ := fun tZ kZ => castTop (ef14 m b p1) kZ
  obtain ⟨_, _, ⟨T1, L1, k1, n1⟩, -, X1, ⟨Lc1, hQ1, l1, y1, z1⟩, st1⟩ := Jvm.LawKit.callS X0 hx (y := (⟨"java/util/BitSet", "wordIndex", "(I)I"⟩ : MethodName)) hown (mvT hZ (ow hw 30 rfl)) (mvT hZ (ow hw 31 rfl)) (mvT hZ (ow hw 16 rfl)) (mvT hZ (ow hw 32 rfl)) (by decide) (backOf (W := 0) (rm6 l Z a0 hw [] p1 h0 n0 Z0 (by first | assumption | decide | omega) (by first | assumption | decide | omega)) hZ (ow hw 32 rfl) (ow hw 16 rfl) (by decide) (by decide)) (g := (mkF m 32 #[.val (.ref b), .val (.int p1), .unset] [(.int p1)])) rfl (by rw [hml]; rfl) (argsL := [(.int p1)]) (rest := []) (lenOf pd1 rfl) rfl (by show 2 * 0 + _ ≤ _; exact Nat.le_of_eq rfl) (hb hby d14_32) (fun _ _ => ⟨rfl, e0, (by decide : 0 + 0 ≤ _), (by decide : 0 + 0 ≤ _)⟩)
  dsimp only [Pt.U, Pt.locs, Pt.cells, Pt.slots] at X1 l1 y1 z1 st1 hQ1
  subst l1 y1 z1
  obtain ⟨rfl, N1q, e1⟩ := hQ1
  have N1 := Fr.app N0 N1q
  obtain ⟨T2, X2, e2, st2⟩ := getF X1 hx hZ hown (host := "") (Or.inl (ow hw 21 rfl)) Via.refl e1 F1 (g := (mkF m 38 #[.val (.ref b), .val (.int p1), .val (.int (0 : Int32))] [(.ref b), (.int (0 : Int32))])) rfl rfl (hb hby d14_38)
  have pre3 : ∀ tZ, Steps p.tables e below (T2.setTop (mkF m 41 #[.val (.ref b), .val (.int p1), .val (.int (0 : Int32))] [(.int wi), (.int (0 : Int32))])) tZ → Steps p.tables e below (s₁.setTop (entryFrame m #[(.ref b), (.int p1)] 3)) tZ := fun tZ kZ => pre0 tZ (by
    show Steps p.tables e below (s₁.setTop (mkF m 0 #[.val (.ref b), .val (.int p1), .unset] [])) _
    refine XS.iloadN X0.here hx rfl (hb hby d14_0) rfl  ?_
    show Steps p.tables e below (s₁.setTop (mkF m 1 #[.val (.ref b), .val (.int p1), .unset] [(.int p1)])) _
    refine XS.ifYes X0.here hx rfl (pc0 := 1) (pc' := 31) rfl (hb hby d14_1) rfl ((if0 _ _).trans (flt hp0).2.1) (by decide) (by decide) ?_
    show Steps p.tables e below (s₁.setTop (mkF m 31 #[.val (.ref b), .val (.int p1), .unset] [])) _
    refine XS.iloadN X0.here hx rfl (hb hby d14_31) rfl  ?_
    show Steps p.tables e below (s₁.setTop (mkF m 32 #[.val (.ref b), .val (.int p1), .unset] [(.int p1)])) _
    refine st1 _ ?_
    show Steps p.tables e below (T1.setTop (mkF m 35 #[.val (.ref b), .val (.int p1), .unset] [(.int (0 : Int32))])) _
    refine XS.istoreN X1.here hx rfl (hb hby d14_35) rfl (l' := #[.val (.ref b), .val (.int p1), .val (.int (0 : Int32))]) rfl ?_
    show Steps p.tables e below (T1.setTop (mkF m 36 #[.val (.ref b), .val (.int p1), .val (.int (0 : Int32))] [])) _
    refine XS.iloadN X1.here hx rfl (hb hby d14_36) rfl  ?_
    show Steps p.tables e below (T1.setTop (mkF m 37 #[.val (.ref b), .val (.int p1), .val (.int (0 : Int32))] [(.int (0 : Int32))])) _
    refine XS.aloadN X1.here hx rfl (hb hby d14_37) rfl rfl ?_
    show Steps p.tables e below (T1.setTop (mkF m 38 #[.val (.ref b), .val (.int p1), .val (.int (0 : Int32))] [(.ref b), (.int (0 : Int32))])) _
    refine st2 _ ?_
    exact kZ)
  by_cases hc4 : (0 : Int32) < wi
  ·  -- yes
    have hw1 : wi = (1 : Int32) := own_w1 hwi hc4
    have Fw1 : Fld Z h0 b "java/util/BitSet" "wordsInUse" "I" (.int (1 : Int32)) := by rw [← hw1]; exact F1
    obtain ⟨T5, X5, e5, st5⟩ := getF X2 hx hZ hown (host := "") (Or.inl (ow hw 34 rfl)) Via.refl e2 F2 (g := (mkF m 46 #[.val (.ref b), .val (.int p1), .val (.int (0 : Int32))] [(.ref b)])) rfl rfl (hb hby d14_46)
    obtain ⟨c6, Arc6, qc6, Sc6, Mc6, Hc6, Gc6⟩ := id F3
    have hinc6 : ¬ ((0 : Int32) < 0 ∨ c6.slots.size ≤ ((0 : Int32)).toNatClampNeg) := inb_of Sc6 ⟨by decide, by decide⟩
    have hatc6 : c6.slots[((0 : Int32)).toNatClampNeg]? = some (.long wv) := Hc6.at hinc6 rfl
    obtain ⟨c7, Arc7, qc7, Sc7, Mc7, Hc7, Gc7⟩ := id F3
    have hinc7 : ¬ ((0 : Int32) < 0 ∨ c7.slots.size ≤ ((0 : Int32)).toNatClampNeg) := inb_of Sc7 ⟨by decide, by decide⟩
    obtain ⟨T8, h8, X8, e8, W8, st8⟩ := stJ X5 hx hZ e5 Arc7 (j := (0 : Int32)) hinc7  (g := (mkF m 60 #[.val (.ref b), .val (.int p1), .val (.int (0 : Int32))] [(.long (wv &&& (((1 : Int64) <<< (p1 &&& 0x3f).toInt64) ^^^ (-1 : Int64)))), (.int (0 : Int32)), (.ref wa)])) rfl rfl (hb hby d14_60)
    have V8 : Arv Z h8 wa kl .long (1 : Int32) [(.long (wv &&& (((1 : Int64) <<< (p1 &&& 0x3f).toInt64) ^^^ (-1 : Int64))))] (.long (0 : Int64)) := Arv.set Arc7 qc7 Sc7 Mc7 Hc7 Gc7 rfl W8 0 rfl (Nat.le_of_ble_eq_true rfl)
    have Z9 : n0 ≤ h8.size := Nat.le_trans Z0 (Nat.le_of_eq W8.size.symm)
    have K10 : Keep h0 h8 [b, wa] := (Keep.refl h0 [b, wa]).wr W8 (Or.inl (List.mem_of_getElem? (i := 1) rfl))
    have N8 := Fr.snoc X8 N1 g2
    have fa11 : Exa Z h8 b "java/util/BitSet" := (F0.wr W8)
    have fa12 : Fld Z h8 b "java/util/BitSet" "wordsInUse" "I" (.int (1 : Int32)) := (Fw1.other W8 (Or.inl n1))
    have fa13 : Fld Z h8 b "java/util/BitSet" "words" "[J" (.ref wa) := (F2.other W8 (Or.inl n1))
    obtain ⟨cq14, q14, q14'⟩ := fa11.cell
    obtain ⟨_, _, ⟨T14, L14, k14, n14⟩, -, X14, ⟨Lc14, hQ14, l14, y14, z14⟩, st14⟩ := X8.privateBack hx (y := (⟨"java/util/BitSet", "recalculateWordsInUse", "()V"⟩ : MethodName)) hown (mvT hZ (ow hw 86 rfl)) (mvT hZ (ow hw 87 rfl)) (mvT hZ (ow hw 89 rfl)) (Cond.privateMethod_at (mvP hZ (ow hw 88 rfl) (args := #[]))) (mvT hZ (ow hw 90 rfl)) (by decide) (backOf (W := 0) (rm15 l Z a0 hw [] b wa kl (wv &&& (((1 : Int64) <<< (p1 &&& 0x3f).toInt64) ^^^ (-1 : Int64))) h8 n0 Z9 fa11 fa12 fa13 V8 g1 g2 n1) hZ (ow hw 90 rfl) (ow hw 16 rfl) (by decide) (by decide)) (g := (mkF m 62 #[.val (.ref b), .val (.int p1), .val (.int (0 : Int32))] [(.ref b)])) rfl (by rw [hml]; rfl) (Steps.refl _) (a := b) (by rw [e8]; exact q14) q14' (argsL := []) (rest := []) (lenOf pd4 rfl) rfl (by show 2 * 0 + _ ≤ _; exact Nat.le_of_eq rfl) (hb hby d14_62) (fun _ _ => ⟨rfl, e8, (by decide : 0 + 0 ≤ _), (by decide : 0 + 0 ≤ _)⟩)
    dsimp only [Pt.U, Pt.locs, Pt.cells, Pt.slots] at X14 l14 y14 z14 st14 hQ14
    subst l14 y14 z14
    obtain ⟨rfl, N14q, K14, f14_0, f14_1, f14_2, f14_3⟩ := hQ14
    have N14 := Fr.app N8 N14q
    have Z15 : n0 ≤ T14.heap.size := Nat.le_trans Z9 K14.1
    have K16 : Keep h0 T14.heap [b, wa] := K10.trans K14 (allS (P := fun x => x ∈ _ ∨ _) (Or.inl (List.mem_of_getElem? (i := 0) rfl)) (allS (P := fun x => x ∈ _ ∨ _) (Or.inl (List.mem_of_getElem? (i := 1) rfl)) all0))
    have fa17 : Old Z n0 T14.heap := ((O1.wr W8 g2).keep K14 (allS (P := fun x => n0 ≤ x) g1 (allS (P := fun x => n0 ≤ x) g2 all0)))
    obtain ⟨cq18, q18, q18'⟩ := f14_0.cell
    obtain ⟨_, _, ⟨T18, L18, k18, n18⟩, -, X18, ⟨Lc18, hQ18, l18, y18, z18⟩, st18⟩ := X14.privateBack hx (y := (⟨"java/util/BitSet", "checkInvariants", "()V"⟩ : MethodName)) hown (mvT hZ (ow hw 52 rfl)) (mvT hZ (ow hw 53 rfl)) (mvT hZ (ow hw 55 rfl)) (Cond.privateMethod_at (mvP hZ (ow hw 54 rfl) (args := #[]))) (mvT hZ (ow hw 56 rfl)) (by decide) (backOf (W := 0) (rm9 l Z a0 hw [] b T14.heap n0 Z15 S1 fa17) hZ (ow hw 56 rfl) (ow hw 16 rfl) (by decide) (by decide)) (g := (mkF m 66 #[.val (.ref b), .val (.int p1), .val (.int (0 : Int32))] [(.ref b)])) rfl (by rw [hml]; rfl) (Steps.refl _) (a := b) q18 q18' (argsL := []) (rest := []) (lenOf pd4 rfl) rfl (by show 2 * 0 + _ ≤ _; exact Nat.le_of_eq rfl) (hb hby d14_66) (fun _ _ => ⟨rfl, rfl, (by decide : 0 + 0 ≤ _), (by decide : 0 + 0 ≤ _)⟩)
    dsimp only [Pt.U, Pt.locs, Pt.cells, Pt.slots] at X18 l18 y18 z18 st18 hQ18
    subst l18 y18 z18
    obtain ⟨rfl, N18q, e18⟩ := hQ18
    have N18 := Fr.app N14 N18q
    obtain ⟨fsZ, hrZ, hrun, hended, hW, hsame⟩ := X18.leave (v := none) (fun _ => rfl)
    refine ⟨_, _, pre3 _ ?_, hrun, hended, _, _, rfl, ?_, ⟨_, rfl⟩, hW, hsame.mono (by decide) (by decide)⟩
    · show Steps p.tables e below (T2.setTop (mkF m 41 #[.val (.ref b), .val (.int p1), .val (.int (0 : Int32))] [(.int wi), (.int (0 : Int32))])) _
      refine XS.icmpYes X2.here hx rfl (pc0 := 41) (pc' := 45) rfl (hb hby d14_41) rfl (tlt hc4).1 (by decide) (by decide) ?_
      show Steps p.tables e below (T2.setTop (mkF m 45 #[.val (.ref b), .val (.int p1), .val (.int (0 : Int32))] [])) _
      refine XS.aloadN X2.here hx rfl (hb hby d14_45) rfl rfl ?_
      show Steps p.tables e below (T2.setTop (mkF m 46 #[.val (.ref b), .val (.int p1), .val (.int (0 : Int32))] [(.ref b)])) _
      refine st5 _ ?_
      show Steps p.tables e below (T5.setTop (mkF m 49 #[.val (.ref b), .val (.int p1), .val (.int (0 : Int32))] [(.ref wa)])) _
      refine XS.iloadN X5.here hx rfl (hb hby d14_49) rfl  ?_
      show Steps p.tables e below (T5.setTop (mkF m 50 #[.val (.ref b), .val (.int p1), .val (.int (0 : Int32))] [(.int (0 : Int32)), (.ref wa)])) _
      refine XT.dup2 X5.here hx rfl (hb hby d14_50) rfl rfl rfl ?_
      show Steps p.tables e below (T5.setTop (mkF m 51 #[.val (.ref b), .val (.int p1), .val (.int (0 : Int32))] [(.int (0 : Int32)), (.ref wa), (.int (0 : Int32)), (.ref wa)])) _
      refine X5.laload hx (j := (0 : Int32)) (v := (.long wv)) (by rw [e5]; exact Arc6.1) (State.isArrayOf_alike hZ.alike Arc6.2.1) Arc6.2.2 hinc6 hatc6 (g := (mkF m 51 #[.val (.ref b), .val (.int p1), .val (.int (0 : Int32))] [(.int (0 : Int32)), (.ref wa), (.int (0 : Int32)), (.ref wa)])) rfl rfl (hb hby d14_51) _ ?_
      show Steps p.tables e below (T5.setTop (mkF m 52 #[.val (.ref b), .val (.int p1), .val (.int (0 : Int32))] [(.long wv), (.int (0 : Int32)), (.ref wa)])) _
      refine XS.lconst X5.here hx rfl (hb hby d14_52) ?_
      show Steps p.tables e below (T5.setTop (mkF m 53 #[.val (.ref b), .val (.int p1), .val (.int (0 : Int32))] [(.long (1 : Int64)), (.long wv), (.int (0 : Int32)), (.ref wa)])) _
      refine XS.iloadN X5.here hx rfl (hb hby d14_53) rfl  ?_
      show Steps p.tables e below (T5.setTop (mkF m 54 #[.val (.ref b), .val (.int p1), .val (.int (0 : Int32))] [(.int p1), (.long (1 : Int64)), (.long wv), (.int (0 : Int32)), (.ref wa)])) _
      refine XS.lshl X5.here hx rfl (hb hby d14_54) rfl ?_
      show Steps p.tables e below (T5.setTop (mkF m 55 #[.val (.ref b), .val (.int p1), .val (.int (0 : Int32))] [(.long ((1 : Int64) <<< (p1 &&& 0x3f).toInt64)), (.long wv), (.int (0 : Int32)), (.ref wa)])) _
      refine X5.ldc2Long hx hown (mvT hZ (ow hw 85 rfl)) (g := (mkF m 55 #[.val (.ref b), .val (.int p1), .val (.int (0 : Int32))] [(.long ((1 : Int64) <<< (p1 &&& 0x3f).toInt64)), (.long wv), (.int (0 : Int32)), (.ref wa)])) rfl (hb hby d14_55) _ ?_
      show Steps p.tables e below (T5.setTop (mkF m 58 #[.val (.ref b), .val (.int p1), .val (.int (0 : Int32))] [(.long (-1 : Int64)), (.long ((1 : Int64) <<< (p1 &&& 0x3f).toInt64)), (.long wv), (.int (0 : Int32)), (.ref wa)])) _
      refine XS.lxor X5.here hx rfl (hb hby d14_58) rfl ?_
      show Steps p.tables e below (T5.setTop (mkF m 59 #[.val (.ref b), .val (.int p1), .val (.int (0 : Int32))] [(.long (((1 : Int64) <<< (p1 &&& 0x3f).toInt64) ^^^ (-1 : Int64))), (.long wv), (.int (0 : Int32)), (.ref wa)])) _
      refine XS.land X5.here hx rfl (hb hby d14_59) rfl ?_
      show Steps p.tables e below (T5.setTop (mkF m 60 #[.val (.ref b), .val (.int p1), .val (.int (0 : Int32))] [(.long (wv &&& (((1 : Int64) <<< (p1 &&& 0x3f).toInt64) ^^^ (-1 : Int64)))), (.int (0 : Int32)), (.ref wa)])) _
      refine st8 _ ?_
      show Steps p.tables e below (T8.setTop (mkF m 61 #[.val (.ref b), .val (.int p1), .val (.int (0 : Int32))] [])) _
      refine XS.aloadN X8.here hx rfl (hb hby d14_61) rfl rfl ?_
      show Steps p.tables e below (T8.setTop (mkF m 62 #[.val (.ref b), .val (.int p1), .val (.int (0 : Int32))] [(.ref b)])) _
      refine st14.trans ?_
      show Steps p.tables e below (T14.setTop (mkF m 65 #[.val (.ref b), .val (.int p1), .val (.int (0 : Int32))] [])) _
      refine XS.aloadN X14.here hx rfl (hb hby d14_65) rfl rfl ?_
      show Steps p.tables e below (T14.setTop (mkF m 66 #[.val (.ref b), .val (.int p1), .val (.int (0 : Int32))] [(.ref b)])) _
      refine st18.trans ?_
      show Steps p.tables e below (T18.setTop (mkF m 69 #[.val (.ref b), .val (.int p1), .val (.int (0 : Int32))] [])) _
      exact X18.returnOut hx Bd.returns (hb hby d14_69) hrZ
    · show Q14 Z b p1 wa kl wi wv h0 n0 _ T18.heap _
      rw [e18]
      exact ⟨(own_b (¬ ((wv &&& (((1 : Int64) <<< (p1 &&& 0x3f).toInt64) ^^^ (-1 : Int64))) = (0 : Int64)))), (wv &&& (((1 : Int64) <<< (p1 &&& 0x3f).toInt64) ^^^ (-1 : Int64))), rfl, N18, K16, (by first | assumption | exact own_b01 _ | decide | omega), f14_0, f14_1, f14_2, f14_3⟩
  ·  -- no
    obtain ⟨fsZ, hrZ, hrun, hended, hW, hsame⟩ := X2.leave (v := none) (fun _ => rfl)
    refine ⟨_, _, pre3 _ ?_, hrun, hended, _, _, rfl, ?_, ⟨_, rfl⟩, hW, hsame.mono (by decide) (by decide)⟩
    · show Steps p.tables e below (T2.setTop (mkF m 41 #[.val (.ref b), .val (.int p1), .val (.int (0 : Int32))] [(.int wi), (.int (0 : Int32))])) _
      refine XS.icmpNo X2.here hx rfl (hb hby d14_41) rfl (flt hc4).1 ?_
      show Steps p.tables e below (T2.setTop (mkF m 44 #[.val (.ref b), .val (.int p1), .val (.int (0 : Int32))] [])) _
      exact X2.returnOut hx Bd.returns (hb hby d14_44) hrZ
    · show Q14 Z b p1 wa kl wi wv h0 n0 _ T2.heap _
      rw [e2]
      exact ⟨wi, wv, rfl, N1, (Keep.refl h0 [b, wa]), (by first | assumption | exact own_b01 _ | decide | omega), F0, F1, F2, F3⟩
theorem d13_0 : decode jdk_92_method_14_code 0 = .ok (.aload_n 0, 1) := by decide +kernel
theorem d13_1 : decode jdk_92_method_14_code 1 = .ok (.getfield 11, 3) := by decide +kernel
theorem d13_4 : decode jdk_92_method_14_code 4 = .ok (.arraylength, 1) := by decide +kernel
theorem d13_5 : decode jdk_92_method_14_code 5 = .ok (.iload_n 1, 1) := by decide +kernel
theorem d13_6 : decode jdk_92_method_14_code 6 = .ok (.if_icmp .ge 32, 3) := by decide +kernel
theorem d13_38 : decode jdk_92_method_14_code 38 = .ok (.return_, 1) := by decide +kernel
theorem ef13 (m : MethodId) (b : Addr) : entryFrame m #[(.ref b), (.int (1 : Int32))] 3 = mkF m 0 #[.val (.ref b), .val (.int (1 : Int32)), .unset] [] := by first | (simp [entryFrame, mkF, argsToLocals, Value.category]; done) | rfl
def Q13 (Z : State) (b : Addr) (wa : Addr) (kl : ClassId) (wi : Int32) (wv : Int64) (h0 : Heap) (n0 : Nat) (v : Option Value) (h : Heap) (L : List Loc) : Prop := v = none ∧ Fr n0 L ∧ h = h0
set_option maxRecDepth 65536 in
set_option maxHeartbeats 40000000 in
theorem rm13 (l : Launch) (Z : State) (a0 : Array Value) (hw : ∀ d ∈ tables_1, d.before a0 Z = true) (ws : List Jvm.Cond) (b : Addr) (wa : Addr) (kl : ClassId) (wi : Int32) (wv : Int64) (h0 : Heap) (n0 : Nat) (Z0 : n0 ≤ h0.size) (F0 : Exa Z h0 b "java/util/BitSet") (F1 : Fld Z h0 b "java/util/BitSet" "wordsInUse" "I" (.int wi)) (F2 : Fld Z h0 b "java/util/BitSet" "words" "[J" (.ref wa)) (F3 : Arv Z h0 wa kl .long (1 : Int32) [(.long wv)] (.long (0 : Int64))) :
    MetFree l (⟨"java/util/BitSet", "ensureCapacity", "(I)V"⟩ : MethodName) (head1 (Jvm.Cond.code (⟨"java/util/BitSet", "ensureCapacity", "(I)V"⟩ : MethodName) jdk_92_method_14_code 3 none :: ws) ({ frames := 0, cells := 0, slots := 0, locals := 0 } : Room)) (fun a U => a = #[(.ref b), (.int (1 : Int32))] ∧ Z.Warmed39 U.vm ∧ U.heap = h0) (fun _ _ _ _ _ => True) (fun _ U o U' => ∃ v L, o = .returned v ∧ Q13 Z b wa kl wi wv h0 n0 v U'.heap L ∧ FrameEnd U o U' L ({ frames := 0, cells := 0, slots := 0, locals := 0 } : Room).cells ({ frames := 0, cells := 0, slots := 0, locals := 0 } : Room).slots) := by
  refine MetFree.of_bodySF (plainFor_of_name pn0) hisR ?_
  intro p e s m args below meth c s₁ Bd hml0 hP hK
  obtain ⟨rfl, hZ, hh⟩ := hP
  have hx := Bd.exec
  have hby := Bd.bytes
  have hml : c.maxLocals = 3 := hml0
  have hown : s.vm.findClass "java/util/BitSet" = some m.cls := findClass_of_methodNamed Bd.named
  have hnm := (name_of_methodNamed Bd.named Bd.method).1
  have X0 : Stand p l e ({ frames := 0, cells := 0, slots := 0, locals := 0 } : Room) s m #[(.ref b), (.int (1 : Int32))] below meth c s₁ [] 0 0 := Stand.of_body Bd
  have e0 : s₁.heap = h0 := by rw [← hh, Bd.state]; rfl
  have N0 := Fr.nil n0
  have pre0 : ∀ tZ, Steps p.tables e below (s₁.setTop (mkF m 0 #[.val (.ref b), .val (.int (1 : Int32)), .unset] [])) tZ → Steps p.tables e below (s₁.setTop (entryFrame m #[(.ref b), (.int (1 : Int32))] 3)) tZ := fun tZ kZ => castTop (ef13 m b) kZ
  obtain ⟨T1, X1, e1, st1⟩ := getF X0 hx hZ hown (host := "") (Or.inl (ow hw 34 rfl)) Via.refl e0 F2 (g := (mkF m 1 #[.val (.ref b), .val (.int (1 : Int32)), .unset] [(.ref b)])) rfl rfl (hb hby d13_1)
  obtain ⟨c2, Arc2, -, Sc2, Mc2, -, -⟩ := id F3
  obtain ⟨fsZ, hrZ, hrun, hended, hW, hsame⟩ := X1.leave (v := none) (fun _ => rfl)
  refine ⟨_, _, pre0 _ ?_, hrun, hended, _, _, rfl, ?_, ⟨_, rfl⟩, hW, hsame.mono (by decide) (by decide)⟩
  · show Steps p.tables e below (s₁.setTop (mkF m 0 #[.val (.ref b), .val (.int (1 : Int32)), .unset] [])) _
    refine XS.aloadN X0.here hx rfl (hb hby d13_0) rfl rfl ?_
    show Steps p.tables e below (s₁.setTop (mkF m 1 #[.val (.ref b), .val (.int (1 : Int32)), .unset] [(.ref b)])) _
    refine st1 _ ?_
    show Steps p.tables e below (T1.setTop (mkF m 4 #[.val (.ref b), .val (.int (1 : Int32)), .unset] [(.ref wa)])) _
    refine X1.arraylength hx (by rw [e1]; exact Arc2.1) (State.isArrayOf_alike hZ.alike Arc2.2.1) (g := (mkF m 4 #[.val (.ref b), .val (.int (1 : Int32)), .unset] [(.ref wa)])) rfl rfl (hb hby d13_4) _ ?_
    rw [len_of Sc2 Mc2]
    show Steps p.tables e below (T1.setTop (mkF m 5 #[.val (.ref b), .val (.int (1 : Int32)), .unset] [(.int (1 : Int32))])) _
    refine XS.iloadN X1.here hx rfl (hb hby d13_5) rfl  ?_
    show Steps p.tables e below (T1.setTop (mkF m 6 #[.val (.ref b), .val (.int (1 : Int32)), .unset] [(.int (1 : Int32)), (.int (1 : Int32))])) _
    refine XS.icmpYes X1.here hx rfl (pc0 := 6) (pc' := 38) rfl (hb hby d13_6) rfl (flt (by decide)).2.1 (by decide) (by decide) ?_
    show Steps p.tables e below (T1.setTop (mkF m 38 #[.val (.ref b), .val (.int (1 : Int32)), .unset] [])) _
    exact X1.returnOut hx Bd.returns (hb hby d13_38) hrZ
  · show Q13 Z b wa kl wi wv h0 n0 _ T1.heap _
    rw [e1]
    exact ⟨rfl, N0, rfl⟩
theorem d12_0 : decode jdk_92_method_15_code 0 = .ok (.iload_n 1, 1) := by decide +kernel
theorem d12_1 : decode jdk_92_method_15_code 1 = .ok (.iconst 1, 1) := by decide +kernel
theorem d12_2 : decode jdk_92_method_15_code 2 = .ok (.iadd, 1) := by decide +kernel
theorem d12_3 : decode jdk_92_method_15_code 3 = .ok (.istore_n 2, 1) := by decide +kernel
theorem d12_4 : decode jdk_92_method_15_code 4 = .ok (.aload_n 0, 1) := by decide +kernel
theorem d12_5 : decode jdk_92_method_15_code 5 = .ok (.getfield 7, 3) := by decide +kernel
theorem d12_8 : decode jdk_92_method_15_code 8 = .ok (.iload_n 2, 1) := by decide +kernel
theorem d12_9 : decode jdk_92_method_15_code 9 = .ok (.if_icmp .ge 13, 3) := by decide +kernel
theorem d12_12 : decode jdk_92_method_15_code 12 = .ok (.aload_n 0, 1) := by decide +kernel
theorem d12_13 : decode jdk_92_method_15_code 13 = .ok (.iload_n 2, 1) := by decide +kernel
theorem d12_14 : decode jdk_92_method_15_code 14 = .ok (.invokevirtual 139, 3) := by decide +kernel
theorem d12_17 : decode jdk_92_method_15_code 17 = .ok (.aload_n 0, 1) := by decide +kernel
theorem d12_18 : decode jdk_92_method_15_code 18 = .ok (.iload_n 2, 1) := by decide +kernel
theorem d12_19 : decode jdk_92_method_15_code 19 = .ok (.putfield 7, 3) := by decide +kernel
theorem d12_22 : decode jdk_92_method_15_code 22 = .ok (.return_, 1) := by decide +kernel
theorem ef12 (m : MethodId) (b : Addr) : entryFrame m #[(.ref b), (.int (0 : Int32))] 3 = mkF m 0 #[.val (.ref b), .val (.int (0 : Int32)), .unset] [] := by first | (simp [entryFrame, mkF, argsToLocals, Value.category]; done) | rfl
def Q12 (Z : State) (b : Addr) (wa : Addr) (kl : ClassId) (wi : Int32) (wv : Int64) (h0 : Heap) (n0 : Nat) (v : Option Value) (h : Heap) (L : List Loc) : Prop := v = none ∧ Fr n0 L ∧ Keep h0 h [b, wa] ∧ Exa Z h b "java/util/BitSet" ∧ Fld Z h b "java/util/BitSet" "wordsInUse" "I" (.int (1 : Int32)) ∧ Fld Z h b "java/util/BitSet" "words" "[J" (.ref wa) ∧ Arv Z h wa kl .long (1 : Int32) [(.long wv)] (.long (0 : Int64))
set_option maxRecDepth 65536 in
set_option maxHeartbeats 40000000 in
theorem rm12 (l : Launch) (Z : State) (a0 : Array Value) (hw : ∀ d ∈ tables_1, d.before a0 Z = true) (ws : List Jvm.Cond) (b : Addr) (wa : Addr) (kl : ClassId) (wi : Int32) (wv : Int64) (h0 : Heap) (n0 : Nat) (Z0 : n0 ≤ h0.size) (F0 : Exa Z h0 b "java/util/BitSet") (F1 : Fld Z h0 b "java/util/BitSet" "wordsInUse" "I" (.int wi)) (F2 : Fld Z h0 b "java/util/BitSet" "words" "[J" (.ref wa)) (F3 : Arv Z h0 wa kl .long (1 : Int32) [(.long wv)] (.long (0 : Int64))) (g1 : n0 ≤ b) (g2 : n0 ≤ wa) (n1 : b ≠ wa) (hwi : wi = (0 : Int32) ∨ wi = (1 : Int32)) :
    MetFree l (⟨"java/util/BitSet", "expandTo", "(I)V"⟩ : MethodName) (head1 (Jvm.Cond.code (⟨"java/util/BitSet", "expandTo", "(I)V"⟩ : MethodName) jdk_92_method_15_code 3 none :: ws) ({ frames := 1, cells := 0, slots := 0, locals := 14 } : Room)) (fun a U => a = #[(.ref b), (.int (0 : Int32))] ∧ Z.Warmed39 U.vm ∧ U.heap = h0) (fun _ _ _ _ _ => True) (fun _ U o U' => ∃ v L, o = .returned v ∧ Q12 Z b wa kl wi wv h0 n0 v U'.heap L ∧ FrameEnd U o U' L ({ frames := 1, cells := 0, slots := 0, locals := 14 } : Room).cells ({ frames := 1, cells := 0, slots := 0, locals := 14 } : Room).slots) := by
  refine MetFree.of_bodySF (plainFor_of_name pn0) hisR ?_
  intro p e s m args below meth c s₁ Bd hml0 hP hK
  obtain ⟨rfl, hZ, hh⟩ := hP
  have hx := Bd.exec
  have hby := Bd.bytes
  have hml : c.maxLocals = 3 := hml0
  have hown : s.vm.findClass "java/util/BitSet" = some m.cls := findClass_of_methodNamed Bd.named
  have hnm := (name_of_methodNamed Bd.named Bd.method).1
  have X0 : Stand p l e ({ frames := 1, cells := 0, slots := 0, locals := 14 } : Room) s m #[(.ref b), (.int (0 : Int32))] below meth c s₁ [] 0 0 := Stand.of_body Bd
  have e0 : s₁.heap = h0 := by rw [← hh, Bd.state]; rfl
  have N0 := Fr.nil n0
  have pre0 : ∀ tZ, Steps p.tables e below (s₁.setTop (mkF m 0 #[.val (.ref b), .val (.int (0 : Int32)), .unset] [])) tZ → Steps p.tables e below (s₁.setTop (entryFrame m #[(.ref b), (.int (0 : Int32))] 3)) tZ := fun tZ kZ => castTop (ef12 m b) kZ
  obtain ⟨T1, X1, e1, st1⟩ := getF X0 hx hZ hown (host := "") (Or.inl (ow hw 21 rfl)) Via.refl e0 F1 (g := (mkF m 5 #[.val (.ref b), .val (.int (0 : Int32)), .val (.int (1 : Int32))] [(.ref b)])) rfl rfl (hb hby d12_5)
  have pre2 : ∀ tZ, Steps p.tables e below (T1.setTop (mkF m 9 #[.val (.ref b), .val (.int (0 : Int32)), .val (.int (1 : Int32))] [(.int (1 : Int32)), (.int wi)])) tZ → Steps p.tables e below (s₁.setTop (entryFrame m #[(.ref b), (.int (0 : Int32))] 3)) tZ := fun tZ kZ => pre0 tZ (by
    show Steps p.tables e below (s₁.setTop (mkF m 0 #[.val (.ref b), .val (.int (0 : Int32)), .unset] [])) _
    refine XS.iloadN X0.here hx rfl (hb hby d12_0) rfl  ?_
    show Steps p.tables e below (s₁.setTop (mkF m 1 #[.val (.ref b), .val (.int (0 : Int32)), .unset] [(.int (0 : Int32))])) _
    refine XS.iconst X0.here hx rfl (hb hby d12_1) ?_
    show Steps p.tables e below (s₁.setTop (mkF m 2 #[.val (.ref b), .val (.int (0 : Int32)), .unset] [(.int (1 : Int32)), (.int (0 : Int32))])) _
    refine XS.iadd X0.here hx rfl (hb hby d12_2) rfl ?_
    show Steps p.tables e below (s₁.setTop (mkF m 3 #[.val (.ref b), .val (.int (0 : Int32)), .unset] [(.int ((0 : Int32) + (1 : Int32)))])) _
    rw [show ((0 : Int32) + (1 : Int32)) = (1 : Int32) from by decide]
    show Steps p.tables e below (s₁.setTop (mkF m 3 #[.val (.ref b), .val (.int (0 : Int32)), .unset] [(.int (1 : Int32))])) _
    refine XS.istoreN X0.here hx rfl (hb hby d12_3) rfl (l' := #[.val (.ref b), .val (.int (0 : Int32)), .val (.int (1 : Int32))]) rfl ?_
    show Steps p.tables e below (s₁.setTop (mkF m 4 #[.val (.ref b), .val (.int (0 : Int32)), .val (.int (1 : Int32))] [])) _
    refine XS.aloadN X0.here hx rfl (hb hby d12_4) rfl rfl ?_
    show Steps p.tables e below (s₁.setTop (mkF m 5 #[.val (.ref b), .val (.int (0 : Int32)), .val (.int (1 : Int32))] [(.ref b)])) _
    refine st1 _ ?_
    show Steps p.tables e below (T1.setTop (mkF m 8 #[.val (.ref b), .val (.int (0 : Int32)), .val (.int (1 : Int32))] [(.int wi)])) _
    refine XS.iloadN X1.here hx rfl (hb hby d12_8) rfl  ?_
    exact kZ)
  by_cases hc3 : wi < (1 : Int32)
  ·  -- yes
    obtain ⟨cq4, q4, q4'⟩ := F0.cell
    obtain ⟨_, _, ⟨T4, L4, k4, n4⟩, -, X4, ⟨Lc4, hQ4, l4, y4, z4⟩, st4⟩ := X1.privateBack hx (y := (⟨"java/util/BitSet", "ensureCapacity", "(I)V"⟩ : MethodName)) hown (mvT hZ (ow hw 73 rfl)) (mvT hZ (ow hw 74 rfl)) (mvT hZ (ow hw 76 rfl)) (Cond.privateMethod_at (mvP hZ (ow hw 75 rfl) (args := #[]))) (mvT hZ (ow hw 77 rfl)) (by decide) (backOf (W := 0) (rm13 l Z a0 hw [] b wa kl wi wv h0 n0 Z0 F0 F1 F2 F3) hZ (ow hw 77 rfl) (ow hw 16 rfl) (by decide) (by decide)) (g := (mkF m 14 #[.val (.ref b), .val (.int (0 : Int32)), .val (.int (1 : Int32))] [(.int (1 : Int32)), (.ref b)])) rfl (by rw [hml]; rfl) (Steps.refl _) (a := b) (by rw [e1]; exact q4) q4' (argsL := [(.int (1 : Int32))]) (rest := []) (lenOf pd2 rfl) rfl (by show 2 * 0 + _ ≤ _; exact Nat.le_of_eq rfl) (hb hby d12_14) (fun _ _ => ⟨rfl, e1, (by decide : 0 + 0 ≤ _), (by decide : 0 + 0 ≤ _)⟩)
    dsimp only [Pt.U, Pt.locs, Pt.cells, Pt.slots] at X4 l4 y4 z4 st4 hQ4
    subst l4 y4 z4
    obtain ⟨rfl, N4q, e4⟩ := hQ4
    have N4 := Fr.app N0 N4q
    obtain ⟨T5, h5, X5, e5, W5, st5⟩ := putF X4 hx hZ hown (host := "") (Or.inl (ow hw 21 rfl)) Via.refl e4 F1 F0 (Or.inl (ow hw 22 rfl)) (ow hw 15 rfl) (ty := .int) (by decide) rfl rfl (g := (mkF m 19 #[.val (.ref b), .val (.int (0 : Int32)), .val (.int (1 : Int32))] [(.int (1 : Int32)), (.ref b)])) rfl rfl (hb hby d12_19)
    have fw5 : Fld Z h5 b "java/util/BitSet" "wordsInUse" "I" (.int (1 : Int32)) := F1.same W5
    have Z6 : n0 ≤ h5.size := Nat.le_trans Z0 (Nat.le_of_eq W5.size.symm)
    have K7 : Keep h0 h5 [b, wa] := (Keep.refl h0 [b, wa]).wr W5 (Or.inl (List.mem_of_getElem? (i := 0) rfl))
    have N5 := Fr.snoc X5 N4 g1
    obtain ⟨fsZ, hrZ, hrun, hended, hW, hsame⟩ := X5.leave (v := none) (fun _ => rfl)
    have fa8 : Exa Z h5 b "java/util/BitSet" := (F0.wr W5)
    have fa9 : Fld Z h5 b "java/util/BitSet" "words" "[J" (.ref wa) := (F2.other W5 (Or.inr (slot_ne (Or.inl (ow hw 35 rfl)) (Or.inl (ow hw 22 rfl)) (by decide) (t := (.array .long)) (t' := .int) (by decide) (by decide))))
    have fa10 : Arv Z h5 wa kl .long (1 : Int32) [(.long wv)] (.long (0 : Int64)) := (F3.other W5 (Ne.symm n1))
    refine ⟨_, _, pre2 _ ?_, hrun, hended, _, _, rfl, ?_, ⟨_, rfl⟩, hW, hsame.mono (by decide) (by decide)⟩
    · show Steps p.tables e below (T1.setTop (mkF m 9 #[.val (.ref b), .val (.int (0 : Int32)), .val (.int (1 : Int32))] [(.int (1 : Int32)), (.int wi)])) _
      refine XS.icmpNo X1.here hx rfl (hb hby d12_9) rfl (tlt hc3).2.1 ?_
      show Steps p.tables e below (T1.setTop (mkF m 12 #[.val (.ref b), .val (.int (0 : Int32)), .val (.int (1 : Int32))] [])) _
      refine XS.aloadN X1.here hx rfl (hb hby d12_12) rfl rfl ?_
      show Steps p.tables e below (T1.setTop (mkF m 13 #[.val (.ref b), .val (.int (0 : Int32)), .val (.int (1 : Int32))] [(.ref b)])) _
      refine XS.iloadN X1.here hx rfl (hb hby d12_13) rfl  ?_
      show Steps p.tables e below (T1.setTop (mkF m 14 #[.val (.ref b), .val (.int (0 : Int32)), .val (.int (1 : Int32))] [(.int (1 : Int32)), (.ref b)])) _
      refine st4.trans ?_
      show Steps p.tables e below (T4.setTop (mkF m 17 #[.val (.ref b), .val (.int (0 : Int32)), .val (.int (1 : Int32))] [])) _
      refine XS.aloadN X4.here hx rfl (hb hby d12_17) rfl rfl ?_
      show Steps p.tables e below (T4.setTop (mkF m 18 #[.val (.ref b), .val (.int (0 : Int32)), .val (.int (1 : Int32))] [(.ref b)])) _
      refine XS.iloadN X4.here hx rfl (hb hby d12_18) rfl  ?_
      show Steps p.tables e below (T4.setTop (mkF m 19 #[.val (.ref b), .val (.int (0 : Int32)), .val (.int (1 : Int32))] [(.int (1 : Int32)), (.ref b)])) _
      refine st5 _ ?_
      show Steps p.tables e below (T5.setTop (mkF m 22 #[.val (.ref b), .val (.int (0 : Int32)), .val (.int (1 : Int32))] [])) _
      exact X5.returnOut hx Bd.returns (hb hby d12_22) hrZ
    · show Q12 Z b wa kl wi wv h0 n0 _ T5.heap _
      rw [e5]
      exact ⟨rfl, N5, K7, fa8, fw5, fa9, fa10⟩
  ·  -- no
    obtain ⟨fsZ, hrZ, hrun, hended, hW, hsame⟩ := X1.leave (v := none) (fun _ => rfl)
    have q11 : Fld Z h0 b "java/util/BitSet" "wordsInUse" "I" (.int (1 : Int32)) := by rw [show (1 : Int32) = wi from (own_w1' hwi hc3)]; exact F1
    refine ⟨_, _, pre2 _ ?_, hrun, hended, _, _, rfl, ?_, ⟨_, rfl⟩, hW, hsame.mono (by decide) (by decide)⟩
    · show Steps p.tables e below (T1.setTop (mkF m 9 #[.val (.ref b), .val (.int (0 : Int32)), .val (.int (1 : Int32))] [(.int (1 : Int32)), (.int wi)])) _
      refine XS.icmpYes X1.here hx rfl (pc0 := 9) (pc' := 22) rfl (hb hby d12_9) rfl (flt hc3).2.1 (by decide) (by decide) ?_
      show Steps p.tables e below (T1.setTop (mkF m 22 #[.val (.ref b), .val (.int (0 : Int32)), .val (.int (1 : Int32))] [])) _
      exact X1.returnOut hx Bd.returns (hb hby d12_22) hrZ
    · show Q12 Z b wa kl wi wv h0 n0 _ T1.heap _
      rw [e1]
      exact ⟨rfl, N0, (Keep.refl h0 [b, wa]), F0, q11, F2, F3⟩
theorem d11_0 : decode jdk_92_method_19_code 0 = .ok (.iload_n 1, 1) := by decide +kernel
theorem d11_1 : decode jdk_92_method_19_code 1 = .ok (.ifCond .ge 30, 3) := by decide +kernel
theorem d11_31 : decode jdk_92_method_19_code 31 = .ok (.iload_n 1, 1) := by decide +kernel
theorem d11_32 : decode jdk_92_method_19_code 32 = .ok (.invokestatic 52, 3) := by decide +kernel
theorem d11_35 : decode jdk_92_method_19_code 35 = .ok (.istore_n 2, 1) := by decide +kernel
theorem d11_36 : decode jdk_92_method_19_code 36 = .ok (.aload_n 0, 1) := by decide +kernel
theorem d11_37 : decode jdk_92_method_19_code 37 = .ok (.iload_n 2, 1) := by decide +kernel
theorem d11_38 : decode jdk_92_method_19_code 38 = .ok (.invokevirtual 155, 3) := by decide +kernel
theorem d11_41 : decode jdk_92_method_19_code 41 = .ok (.aload_n 0, 1) := by decide +kernel
theorem d11_42 : decode jdk_92_method_19_code 42 = .ok (.getfield 11, 3) := by decide +kernel
theorem d11_45 : decode jdk_92_method_19_code 45 = .ok (.iload_n 2, 1) := by decide +kernel
theorem d11_46 : decode jdk_92_method_19_code 46 = .ok (.dup2, 1) := by decide +kernel
theorem d11_47 : decode jdk_92_method_19_code 47 = .ok (.laload, 1) := by decide +kernel
theorem d11_48 : decode jdk_92_method_19_code 48 = .ok (.lconst 1, 1) := by decide +kernel
theorem d11_49 : decode jdk_92_method_19_code 49 = .ok (.iload_n 1, 1) := by decide +kernel
theorem d11_50 : decode jdk_92_method_19_code 50 = .ok (.lshl, 1) := by decide +kernel
theorem d11_51 : decode jdk_92_method_19_code 51 = .ok (.lor, 1) := by decide +kernel
theorem d11_52 : decode jdk_92_method_19_code 52 = .ok (.lastore, 1) := by decide +kernel
theorem d11_53 : decode jdk_92_method_19_code 53 = .ok (.aload_n 0, 1) := by decide +kernel
theorem d11_54 : decode jdk_92_method_19_code 54 = .ok (.invokevirtual 56, 3) := by decide +kernel
theorem d11_57 : decode jdk_92_method_19_code 57 = .ok (.return_, 1) := by decide +kernel
theorem ef11 (m : MethodId) (b : Addr) (p1 : Int32) : entryFrame m #[(.ref b), (.int p1)] 3 = mkF m 0 #[.val (.ref b), .val (.int p1), .unset] [] := by first | (simp [entryFrame, mkF, argsToLocals, Value.category]; done) | rfl
def Q11 (Z : State) (b : Addr) (p1 : Int32) (wa : Addr) (kl : ClassId) (wi : Int32) (wv : Int64) (h0 : Heap) (n0 : Nat) (v : Option Value) (h : Heap) (L : List Loc) : Prop := ∃ (wn : Int32) (vn : Int64), v = none ∧ Fr n0 L ∧ Keep h0 h [b, wa] ∧ (wn = (0 : Int32) ∨ wn = (1 : Int32)) ∧ Exa Z h b "java/util/BitSet" ∧ Fld Z h b "java/util/BitSet" "wordsInUse" "I" (.int wn) ∧ Fld Z h b "java/util/BitSet" "words" "[J" (.ref wa) ∧ Arv Z h wa kl .long (1 : Int32) [(.long vn)] (.long (0 : Int64))
set_option maxRecDepth 65536 in
set_option maxHeartbeats 40000000 in
theorem rm11 (l : Launch) (Z : State) (a0 : Array Value) (hw : ∀ d ∈ tables_1, d.before a0 Z = true) (ws : List Jvm.Cond) (b : Addr) (p1 : Int32) (wa : Addr) (kl : ClassId) (wi : Int32) (wv : Int64) (h0 : Heap) (n0 : Nat) (Z0 : n0 ≤ h0.size) (F0 : Exa Z h0 b "java/util/BitSet") (F1 : Fld Z h0 b "java/util/BitSet" "wordsInUse" "I" (.int wi)) (F2 : Fld Z h0 b "java/util/BitSet" "words" "[J" (.ref wa)) (F3 : Arv Z h0 wa kl .long (1 : Int32) [(.long wv)] (.long (0 : Int64))) (hp0 : ¬ (p1 < (0 : Int32))) (hp6 : ¬ ((63 : Int32) < p1)) (hwi : wi = (0 : Int32) ∨ wi = (1 : Int32)) (S1 : Sta Z Z.heap "java/util/BitSet" "$assertionsDisabled" "Z" (.int (1 : Int32))) (O1 : Old Z n0 h0) (g1 : n0 ≤ b) (g2 : n0 ≤ wa) (n1 : b ≠ wa) :
    MetFree l (⟨"java/util/BitSet", "set", "(I)V"⟩ : MethodName) (head1 (Jvm.Cond.code (⟨"java/util/BitSet", "set", "(I)V"⟩ : MethodName) jdk_92_method_19_code 3 none :: ws) ({ frames := 2, cells := 0, slots := 0, locals := 28 } : Room)) (fun a U => a = #[(.ref b), (.int p1)] ∧ Z.Warmed39 U.vm ∧ U.heap = h0) (fun _ _ _ _ _ => True) (fun _ U o U' => ∃ v L, o = .returned v ∧ Q11 Z b p1 wa kl wi wv h0 n0 v U'.heap L ∧ FrameEnd U o U' L ({ frames := 2, cells := 0, slots := 0, locals := 28 } : Room).cells ({ frames := 2, cells := 0, slots := 0, locals := 28 } : Room).slots) := by
  refine MetFree.of_bodySF (plainFor_of_name pn0) hisR ?_
  intro p e s m args below meth c s₁ Bd hml0 hP hK
  obtain ⟨rfl, hZ, hh⟩ := hP
  have hx := Bd.exec
  have hby := Bd.bytes
  have hml : c.maxLocals = 3 := hml0
  have hown : s.vm.findClass "java/util/BitSet" = some m.cls := findClass_of_methodNamed Bd.named
  have hnm := (name_of_methodNamed Bd.named Bd.method).1
  have X0 : Stand p l e ({ frames := 2, cells := 0, slots := 0, locals := 28 } : Room) s m #[(.ref b), (.int p1)] below meth c s₁ [] 0 0 := Stand.of_body Bd
  have e0 : s₁.heap = h0 := by rw [← hh, Bd.state]; rfl
  have N0 := Fr.nil n0
  have pre0 : ∀ tZ, Steps p.tables e below (s₁.setTop (mkF m 0 #[.val (.ref b), .val (.int p1), .unset] [])) tZ → Steps p.tables e below (s₁.setTop (entryFrame m #[(.ref b), (.int p1)] 3)) tZ := fun tZ kZ => castTop (ef11 m b p1) kZ
  obtain ⟨_, _, ⟨T1, L1, k1, n1⟩, -, X1, ⟨Lc1, hQ1, l1, y1, z1⟩, st1⟩ := Jvm.LawKit.callS X0 hx (y := (⟨"java/util/BitSet", "wordIndex", "(I)I"⟩ : MethodName)) hown (mvT hZ (ow hw 30 rfl)) (mvT hZ (ow hw 31 rfl)) (mvT hZ (ow hw 16 rfl)) (mvT hZ (ow hw 32 rfl)) (by decide) (backOf (W := 0) (rm6 l Z a0 hw [] p1 h0 n0 Z0 (by first | assumption | decide | omega) (by first | assumption | decide | omega)) hZ (ow hw 32 rfl) (ow hw 16 rfl) (by decide) (by decide)) (g := (mkF m 32 #[.val (.ref b), .val (.int p1), .unset] [(.int p1)])) rfl (by rw [hml]; rfl) (argsL := [(.int p1)]) (rest := []) (lenOf pd1 rfl) rfl (by show 2 * 0 + _ ≤ _; exact Nat.le_of_eq rfl) (hb hby d11_32) (fun _ _ => ⟨rfl, e0, (by decide : 0 + 0 ≤ _), (by decide : 0 + 0 ≤ _)⟩)
  dsimp only [Pt.U, Pt.locs, Pt.cells, Pt.slots] at X1 l1 y1 z1 st1 hQ1
  subst l1 y1 z1
  obtain ⟨rfl, N1q, e1⟩ := hQ1
  have N1 := Fr.app N0 N1q
  obtain ⟨cq2, q2, q2'⟩ := F0.cell
  obtain ⟨_, _, ⟨T2, L2, k2, n2⟩, -, X2, ⟨Lc2, hQ2, l2, y2, z2⟩, st2⟩ := X1.privateBack hx (y := (⟨"java/util/BitSet", "expandTo", "(I)V"⟩ : MethodName)) hown (mvT hZ (ow hw 68 rfl)) (mvT hZ (ow hw 69 rfl)) (mvT hZ (ow hw 71 rfl)) (Cond.privateMethod_at (mvP hZ (ow hw 70 rfl) (args := #[]))) (mvT hZ (ow hw 72 rfl)) (by decide) (backOf (W := 0) (rm12 l Z a0 hw [] b wa kl wi wv h0 n0 Z0 F0 F1 F2 F3 g1 g2 n1 (by first | assumption | decide | omega)) hZ (ow hw 72 rfl) (ow hw 16 rfl) (by decide) (by decide)) (g := (mkF m 38 #[.val (.ref b), .val (.int p1), .val (.int (0 : Int32))] [(.int (0 : Int32)), (.ref b)])) rfl (by rw [hml]; rfl) (Steps.refl _) (a := b) (by rw [e1]; exact q2) q2' (argsL := [(.int (0 : Int32))]) (rest := []) (lenOf pd2 rfl) rfl (by show 2 * 0 + _ ≤ _; exact Nat.le_of_eq rfl) (hb hby d11_38) (fun _ _ => ⟨rfl, e1, (by decide : 0 + 0 ≤ _), (by decide : 0 + 0 ≤ _)⟩)
  dsimp only [Pt.U, Pt.locs, Pt.cells, Pt.slots] at X2 l2 y2 z2 st2 hQ2
  subst l2 y2 z2
  obtain ⟨rfl, N2q, K2, f2_0, f2_1, f2_2, f2_3⟩ := hQ2
  have N2 := Fr.app N1 N2q
  have Z3 : n0 ≤ T2.heap.size := Nat.le_trans Z0 K2.1
  have K4 : Keep h0 T2.heap [b, wa] := (Keep.refl h0 [b, wa]).trans K2 (allS (P := fun x => x ∈ _ ∨ _) (Or.inl (List.mem_of_getElem? (i := 0) rfl)) (allS (P := fun x => x ∈ _ ∨ _) (Or.inl (List.mem_of_getElem? (i := 1) rfl)) all0))
  obtain ⟨T5, X5, e5, st5⟩ := getF X2 hx hZ hown (host := "") (Or.inl (ow hw 34 rfl)) Via.refl rfl f2_2 (g := (mkF m 42 #[.val (.ref b), .val (.int p1), .val (.int (0 : Int32))] [(.ref b)])) rfl rfl (hb hby d11_42)
  obtain ⟨c6, Arc6, qc6, Sc6, Mc6, Hc6, Gc6⟩ := id f2_3
  have hinc6 : ¬ ((0 : Int32) < 0 ∨ c6.slots.size ≤ ((0 : Int32)).toNatClampNeg) := inb_of Sc6 ⟨by decide, by decide⟩
  have hatc6 : c6.slots[((0 : Int32)).toNatClampNeg]? = some (.long wv) := Hc6.at hinc6 rfl
  obtain ⟨c7, Arc7, qc7, Sc7, Mc7, Hc7, Gc7⟩ := id f2_3
  have hinc7 : ¬ ((0 : Int32) < 0 ∨ c7.slots.size ≤ ((0 : Int32)).toNatClampNeg) := inb_of Sc7 ⟨by decide, by decide⟩
  obtain ⟨T8, h8, X8, e8, W8, st8⟩ := stJ X5 hx hZ e5 Arc7 (j := (0 : Int32)) hinc7  (g := (mkF m 52 #[.val (.ref b), .val (.int p1), .val (.int (0 : Int32))] [(.long (wv ||| ((1 : Int64) <<< (p1 &&& 0x3f).toInt64))), (.int (0 : Int32)), (.ref wa)])) rfl rfl (hb hby d11_52)
  have V8 : Arv Z h8 wa kl .long (1 : Int32) [(.long (wv ||| ((1 : Int64) <<< (p1 &&& 0x3f).toInt64)))] (.long (0 : Int64)) := Arv.set Arc7 qc7 Sc7 Mc7 Hc7 Gc7 rfl W8 0 rfl (Nat.le_of_ble_eq_true rfl)
  have Z9 : n0 ≤ h8.size := Nat.le_trans Z3 (Nat.le_of_eq W8.size.symm)
  have K10 : Keep h0 h8 [b, wa] := K4.wr W8 (Or.inl (List.mem_of_getElem? (i := 1) rfl))
  have N8 := Fr.snoc X8 N2 g2
  have fa11 : Old Z n0 h8 := ((O1.keep K2 (allS (P := fun x => n0 ≤ x) g1 (allS (P := fun x => n0 ≤ x) g2 all0))).wr W8 g2)
  have fa13 : Exa Z h8 b "java/util/BitSet" := (f2_0.wr W8)
  obtain ⟨cq12, q12, q12'⟩ := fa13.cell
  obtain ⟨_, _, ⟨T12, L12, k12, n12⟩, -, X12, ⟨Lc12, hQ12, l12, y12, z12⟩, st12⟩ := X8.privateBack hx (y := (⟨"java/util/BitSet", "checkInvariants", "()V"⟩ : MethodName)) hown (mvT hZ (ow hw 52 rfl)) (mvT hZ (ow hw 53 rfl)) (mvT hZ (ow hw 55 rfl)) (Cond.privateMethod_at (mvP hZ (ow hw 54 rfl) (args := #[]))) (mvT hZ (ow hw 56 rfl)) (by decide) (backOf (W := 0) (rm9 l Z a0 hw [] b h8 n0 Z9 S1 fa11) hZ (ow hw 56 rfl) (ow hw 16 rfl) (by decide) (by decide)) (g := (mkF m 54 #[.val (.ref b), .val (.int p1), .val (.int (0 : Int32))] [(.ref b)])) rfl (by rw [hml]; rfl) (Steps.refl _) (a := b) (by rw [e8]; exact q12) q12' (argsL := []) (rest := []) (lenOf pd4 rfl) rfl (by show 2 * 0 + _ ≤ _; exact Nat.le_of_eq rfl) (hb hby d11_54) (fun _ _ => ⟨rfl, e8, (by decide : 0 + 0 ≤ _), (by decide : 0 + 0 ≤ _)⟩)
  dsimp only [Pt.U, Pt.locs, Pt.cells, Pt.slots] at X12 l12 y12 z12 st12 hQ12
  subst l12 y12 z12
  obtain ⟨rfl, N12q, e12⟩ := hQ12
  have N12 := Fr.app N8 N12q
  obtain ⟨fsZ, hrZ, hrun, hended, hW, hsame⟩ := X12.leave (v := none) (fun _ => rfl)
  have fa14 : Fld Z h8 b "java/util/BitSet" "wordsInUse" "I" (.int (1 : Int32)) := (f2_1.other W8 (Or.inl n1))
  have fa15 : Fld Z h8 b "java/util/BitSet" "words" "[J" (.ref wa) := (f2_2.other W8 (Or.inl n1))
  refine ⟨_, _, pre0 _ ?_, hrun, hended, _, _, rfl, ?_, ⟨_, rfl⟩, hW, hsame.mono (by decide) (by decide)⟩
  · show Steps p.tables e below (s₁.setTop (mkF m 0 #[.val (.ref b), .val (.int p1), .unset] [])) _
    refine XS.iloadN X0.here hx rfl (hb hby d11_0) rfl  ?_
    show Steps p.tables e below (s₁.setTop (mkF m 1 #[.val (.ref b), .val (.int p1), .unset] [(.int p1)])) _
    refine XS.ifYes X0.here hx rfl (pc0 := 1) (pc' := 31) rfl (hb hby d11_1) rfl ((if0 _ _).trans (flt hp0).2.1) (by decide) (by decide) ?_
    show Steps p.tables e below (s₁.setTop (mkF m 31 #[.val (.ref b), .val (.int p1), .unset] [])) _
    refine XS.iloadN X0.here hx rfl (hb hby d11_31) rfl  ?_
    show Steps p.tables e below (s₁.setTop (mkF m 32 #[.val (.ref b), .val (.int p1), .unset] [(.int p1)])) _
    refine st1 _ ?_
    show Steps p.tables e below (T1.setTop (mkF m 35 #[.val (.ref b), .val (.int p1), .unset] [(.int (0 : Int32))])) _
    refine XS.istoreN X1.here hx rfl (hb hby d11_35) rfl (l' := #[.val (.ref b), .val (.int p1), .val (.int (0 : Int32))]) rfl ?_
    show Steps p.tables e below (T1.setTop (mkF m 36 #[.val (.ref b), .val (.int p1), .val (.int (0 : Int32))] [])) _
    refine XS.aloadN X1.here hx rfl (hb hby d11_36) rfl rfl ?_
    show Steps p.tables e below (T1.setTop (mkF m 37 #[.val (.ref b), .val (.int p1), .val (.int (0 : Int32))] [(.ref b)])) _
    refine XS.iloadN X1.here hx rfl (hb hby d11_37) rfl  ?_
    show Steps p.tables e below (T1.setTop (mkF m 38 #[.val (.ref b), .val (.int p1), .val (.int (0 : Int32))] [(.int (0 : Int32)), (.ref b)])) _
    refine st2.trans ?_
    show Steps p.tables e below (T2.setTop (mkF m 41 #[.val (.ref b), .val (.int p1), .val (.int (0 : Int32))] [])) _
    refine XS.aloadN X2.here hx rfl (hb hby d11_41) rfl rfl ?_
    show Steps p.tables e below (T2.setTop (mkF m 42 #[.val (.ref b), .val (.int p1), .val (.int (0 : Int32))] [(.ref b)])) _
    refine st5 _ ?_
    show Steps p.tables e below (T5.setTop (mkF m 45 #[.val (.ref b), .val (.int p1), .val (.int (0 : Int32))] [(.ref wa)])) _
    refine XS.iloadN X5.here hx rfl (hb hby d11_45) rfl  ?_
    show Steps p.tables e below (T5.setTop (mkF m 46 #[.val (.ref b), .val (.int p1), .val (.int (0 : Int32))] [(.int (0 : Int32)), (.ref wa)])) _
    refine XT.dup2 X5.here hx rfl (hb hby d11_46) rfl rfl rfl ?_
    show Steps p.tables e below (T5.setTop (mkF m 47 #[.val (.ref b), .val (.int p1), .val (.int (0 : Int32))] [(.int (0 : Int32)), (.ref wa), (.int (0 : Int32)), (.ref wa)])) _
    refine X5.laload hx (j := (0 : Int32)) (v := (.long wv)) (by rw [e5]; exact Arc6.1) (State.isArrayOf_alike hZ.alike Arc6.2.1) Arc6.2.2 hinc6 hatc6 (g := (mkF m 47 #[.val (.ref b), .val (.int p1), .val (.int (0 : Int32))] [(.int (0 : Int32)), (.ref wa), (.int (0 : Int32)), (.ref wa)])) rfl rfl (hb hby d11_47) _ ?_
    show Steps p.tables e below (T5.setTop (mkF m 48 #[.val (.ref b), .val (.int p1), .val (.int (0 : Int32))] [(.long wv), (.int (0 : Int32)), (.ref wa)])) _
    refine XS.lconst X5.here hx rfl (hb hby d11_48) ?_
    show Steps p.tables e below (T5.setTop (mkF m 49 #[.val (.ref b), .val (.int p1), .val (.int (0 : Int32))] [(.long (1 : Int64)), (.long wv), (.int (0 : Int32)), (.ref wa)])) _
    refine XS.iloadN X5.here hx rfl (hb hby d11_49) rfl  ?_
    show Steps p.tables e below (T5.setTop (mkF m 50 #[.val (.ref b), .val (.int p1), .val (.int (0 : Int32))] [(.int p1), (.long (1 : Int64)), (.long wv), (.int (0 : Int32)), (.ref wa)])) _
    refine XS.lshl X5.here hx rfl (hb hby d11_50) rfl ?_
    show Steps p.tables e below (T5.setTop (mkF m 51 #[.val (.ref b), .val (.int p1), .val (.int (0 : Int32))] [(.long ((1 : Int64) <<< (p1 &&& 0x3f).toInt64)), (.long wv), (.int (0 : Int32)), (.ref wa)])) _
    refine XS.lor X5.here hx rfl (hb hby d11_51) rfl ?_
    show Steps p.tables e below (T5.setTop (mkF m 52 #[.val (.ref b), .val (.int p1), .val (.int (0 : Int32))] [(.long (wv ||| ((1 : Int64) <<< (p1 &&& 0x3f).toInt64))), (.int (0 : Int32)), (.ref wa)])) _
    refine st8 _ ?_
    show Steps p.tables e below (T8.setTop (mkF m 53 #[.val (.ref b), .val (.int p1), .val (.int (0 : Int32))] [])) _
    refine XS.aloadN X8.here hx rfl (hb hby d11_53) rfl rfl ?_
    show Steps p.tables e below (T8.setTop (mkF m 54 #[.val (.ref b), .val (.int p1), .val (.int (0 : Int32))] [(.ref b)])) _
    refine st12.trans ?_
    show Steps p.tables e below (T12.setTop (mkF m 57 #[.val (.ref b), .val (.int p1), .val (.int (0 : Int32))] [])) _
    exact X12.returnOut hx Bd.returns (hb hby d11_57) hrZ
  · show Q11 Z b p1 wa kl wi wv h0 n0 _ T12.heap _
    rw [e12]
    exact ⟨(1 : Int32), (wv ||| ((1 : Int64) <<< (p1 &&& 0x3f).toInt64)), rfl, N12, K10, (by first | assumption | exact own_b01 _ | decide | omega), fa13, fa14, fa15, V8⟩
theorem d7_0 : decode prog_11_method_2_code 0 = .ok (.aload_n 0, 1) := by decide +kernel
theorem d7_1 : decode prog_11_method_2_code 1 = .ok (.getfield 20, 3) := by decide +kernel
theorem d7_4 : decode prog_11_method_2_code 4 = .ok (.aload_n 0, 1) := by decide +kernel
theorem d7_5 : decode prog_11_method_2_code 5 = .ok (.getfield 16, 3) := by decide +kernel
theorem d7_8 : decode prog_11_method_2_code 8 = .ok (.i2l, 1) := by decide +kernel
theorem d7_9 : decode prog_11_method_2_code 9 = .ok (.lrem, 1) := by decide +kernel
theorem d7_10 : decode prog_11_method_2_code 10 = .ok (.l2i, 1) := by decide +kernel
theorem d7_11 : decode prog_11_method_2_code 11 = .ok (.istore_n 1, 1) := by decide +kernel
theorem d7_12 : decode prog_11_method_2_code 12 = .ok (.aload_n 0, 1) := by decide +kernel
theorem d7_13 : decode prog_11_method_2_code 13 = .ok (.getfield 10, 3) := by decide +kernel
theorem d7_16 : decode prog_11_method_2_code 16 = .ok (.iload_n 1, 1) := by decide +kernel
theorem d7_17 : decode prog_11_method_2_code 17 = .ok (.invokevirtual 24, 3) := by decide +kernel
theorem pd5 : parseMethodDescriptor "(I)Z" = some ⟨[.int], some .boolean⟩ := by decide +kernel
theorem d7_20 : decode prog_11_method_2_code 20 = .ok (.ifCond .eq 21, 3) := by decide +kernel
theorem d7_23 : decode prog_11_method_2_code 23 = .ok (.aload_n 0, 1) := by decide +kernel
theorem d7_24 : decode prog_11_method_2_code 24 = .ok (.getfield 10, 3) := by decide +kernel
theorem d7_27 : decode prog_11_method_2_code 27 = .ok (.iload_n 1, 1) := by decide +kernel
theorem d7_28 : decode prog_11_method_2_code 28 = .ok (.invokevirtual 28, 3) := by decide +kernel
theorem d7_31 : decode prog_11_method_2_code 31 = .ok (.aload_n 0, 1) := by decide +kernel
theorem d7_32 : decode prog_11_method_2_code 32 = .ok (.dup, 1) := by decide +kernel
theorem d7_33 : decode prog_11_method_2_code 33 = .ok (.getfield 32, 3) := by decide +kernel
theorem d7_36 : decode prog_11_method_2_code 36 = .ok (.iconst 1, 1) := by decide +kernel
theorem d7_37 : decode prog_11_method_2_code 37 = .ok (.isub, 1) := by decide +kernel
theorem d7_38 : decode prog_11_method_2_code 38 = .ok (.putfield 32, 3) := by decide +kernel
theorem d7_41 : decode prog_11_method_2_code 41 = .ok (.aload_n 0, 1) := by decide +kernel
theorem d7_42 : decode prog_11_method_2_code 42 = .ok (.dup, 1) := by decide +kernel
theorem d7_43 : decode prog_11_method_2_code 43 = .ok (.getfield 20, 3) := by decide +kernel
theorem d7_46 : decode prog_11_method_2_code 46 = .ok (.lconst 1, 1) := by decide +kernel
theorem d7_47 : decode prog_11_method_2_code 47 = .ok (.ladd, 1) := by decide +kernel
theorem d7_48 : decode prog_11_method_2_code 48 = .ok (.putfield 20, 3) := by decide +kernel
theorem d7_51 : decode prog_11_method_2_code 51 = .ok (.return_, 1) := by decide +kernel
theorem ef7 (m : MethodId) (r : Addr) : entryFrame m #[(.ref r)] 2 = mkF m 0 #[.val (.ref r), .unset] [] := by first | (simp [entryFrame, mkF, argsToLocals, Value.category]; done) | rfl
def Q7 (Z : State) (r : Addr) (b : Addr) (sz : Int32) (t : Int64) (mk : Int32) (wa : Addr) (kl : ClassId) (wi : Int32) (wv : Int64) (h0 : Heap) (n0 : Nat) (v : Option Value) (h : Heap) (L : List Loc) : Prop := ∃ (mn : Int32) (wn : Int32) (vn : Int64), v = none ∧ Fr n0 L ∧ Keep h0 h [r, b, wa] ∧ (wn = (0 : Int32) ∨ wn = (1 : Int32)) ∧ Exa Z h r oE ∧ Fld Z h r oE "_marks" "Ljava/util/BitSet;" (.ref b) ∧ Fld Z h r oE "_size" "I" (.int sz) ∧ Fld Z h r oE "_taken" "J" (.long (t + (1 : Int64))) ∧ Fld Z h r oE "_marked" "I" (.int mn) ∧ Exa Z h b "java/util/BitSet" ∧ Fld Z h b "java/util/BitSet" "wordsInUse" "I" (.int wn) ∧ Fld Z h b "java/util/BitSet" "words" "[J" (.ref wa) ∧ Arv Z h wa kl .long (1 : Int32) [(.long vn)] (.long (0 : Int64))
set_option maxRecDepth 65536 in
set_option maxHeartbeats 40000000 in
theorem rm7 (l : Launch) (Z : State) (a0 : Array Value) (hw : ∀ d ∈ tables_1, d.before a0 Z = true) (ws : List Jvm.Cond) (r : Addr) (b : Addr) (sz : Int32) (t : Int64) (mk : Int32) (wa : Addr) (kl : ClassId) (wi : Int32) (wv : Int64) (h0 : Heap) (n0 : Nat) (Z0 : n0 ≤ h0.size) (G0 : Exa Z h0 r oE) (G1 : Fld Z h0 r oE "_marks" "Ljava/util/BitSet;" (.ref b)) (G2 : Fld Z h0 r oE "_size" "I" (.int sz)) (G3 : Fld Z h0 r oE "_taken" "J" (.long t)) (G4 : Fld Z h0 r oE "_marked" "I" (.int mk)) (F0 : Exa Z h0 b "java/util/BitSet") (F1 : Fld Z h0 b "java/util/BitSet" "wordsInUse" "I" (.int wi)) (F2 : Fld Z h0 b "java/util/BitSet" "words" "[J" (.ref wa)) (F3 : Arv Z h0 wa kl .long (1 : Int32) [(.long wv)] (.long (0 : Int64))) (hsz : ¬ (sz < (1 : Int32))) (ht0 : ¬ (t < (0 : Int64))) (ht6 : ¬ ((6 : Int64) < t)) (hwi : wi = (0 : Int32) ∨ wi = (1 : Int32)) (S1 : Sta Z Z.heap "java/util/BitSet" "$assertionsDisabled" "Z" (.int (1 : Int32))) (O1 : Old Z n0 h0) (g0 : n0 ≤ r) (n2 : r ≠ b) (n3 : r ≠ wa) (g1 : n0 ≤ b) (g2 : n0 ≤ wa) (n1 : b ≠ wa) :
    MetFree l (⟨oE, "take", "()V"⟩ : MethodName) (head1 (Jvm.Cond.code (⟨oE, "take", "()V"⟩ : MethodName) prog_11_method_2_code 2 none :: ws) ({ frames := 2, cells := 0, slots := 0, locals := 27 } : Room)) (fun a U => a = #[(.ref r)] ∧ Z.Warmed39 U.vm ∧ U.heap = h0) (fun _ _ _ _ _ => True) (fun _ U o U' => ∃ v L, o = .returned v ∧ Q7 Z r b sz t mk wa kl wi wv h0 n0 v U'.heap L ∧ FrameEnd U o U' L ({ frames := 2, cells := 0, slots := 0, locals := 27 } : Room).cells ({ frames := 2, cells := 0, slots := 0, locals := 27 } : Room).slots) := by
  refine MetFree.of_bodySF (plainFor_of_name pn3) hisR ?_
  intro p e s m args below meth c s₁ Bd hml0 hP hK
  obtain ⟨rfl, hZ, hh⟩ := hP
  have hx := Bd.exec
  have hby := Bd.bytes
  have hml : c.maxLocals = 2 := hml0
  have hown : s.vm.findClass oE = some m.cls := findClass_of_methodNamed Bd.named
  have hnm := (name_of_methodNamed Bd.named Bd.method).1
  have X0 : Stand p l e ({ frames := 2, cells := 0, slots := 0, locals := 27 } : Room) s m #[(.ref r)] below meth c s₁ [] 0 0 := Stand.of_body Bd
  have e0 : s₁.heap = h0 := by rw [← hh, Bd.state]; rfl
  have N0 := Fr.nil n0
  have pre0 : ∀ tZ, Steps p.tables e below (s₁.setTop (mkF m 0 #[.val (.ref r), .unset] [])) tZ → Steps p.tables e below (s₁.setTop (entryFrame m #[(.ref r)] 2)) tZ := fun tZ kZ => castTop (ef7 m r) kZ
  obtain ⟨T1, X1, e1, st1⟩ := getF X0 hx hZ hown (host := "") (Or.inl (ow hw 45 rfl)) Via.refl e0 G3 (g := (mkF m 1 #[.val (.ref r), .unset] [(.ref r)])) rfl rfl (hb hby d7_1)
  obtain ⟨T2, X2, e2, st2⟩ := getF X1 hx hZ hown (host := "") (Or.inl (ow hw 38 rfl)) Via.refl e1 G2 (g := (mkF m 5 #[.val (.ref r), .unset] [(.ref r), (.long t)])) rfl rfl (hb hby d7_5)
  obtain ⟨T3, X3, e3, st3⟩ := getF X2 hx hZ hown (host := "") (Or.inl (ow hw 36 rfl)) Via.refl e2 G1 (g := (mkF m 13 #[.val (.ref r), .val (.int ((t - (t / (sz.toInt64)) * (sz.toInt64)).toInt32))] [(.ref r)])) rfl rfl (hb hby d7_13)
  obtain ⟨cq4, kq4, q4a, q4b, q4c⟩ := isOf hZ e3 F0
  obtain ⟨_, _, ⟨T4, L4, k4, n4⟩, -, X4, ⟨Lc4, hQ4, l4, y4, z4⟩, st4⟩ := X3.virtualBack hx (y := (⟨"java/util/BitSet", "get", "(I)Z"⟩ : MethodName)) (z := (⟨"java/util/BitSet", "get", "(I)Z"⟩ : MethodName)) hown (mvT hZ (ow hw 47 rfl)) (mvT hZ (ow hw 48 rfl)) (notFace_of_selects (args := #[]) (mvT hZ (ow hw 50 rfl))) (mvT hZ (ow hw 50 rfl)) (mvT hZ (ow hw 49 rfl)) (by decide) (backOf (W := 0) (rm8 l Z a0 hw [] b ((t - (t / (sz.toInt64)) * (sz.toInt64)).toInt32) wa kl wi wv h0 n0 Z0 F0 F1 F2 F3 (own_ix hsz ht0 ht6).1 (own_ix hsz ht0 ht6).2 S1 O1) hZ (ow hw 51 rfl) (ow hw 16 rfl) (by decide) (by decide)) q4a q4c (g := (mkF m 17 #[.val (.ref r), .val (.int ((t - (t / (sz.toInt64)) * (sz.toInt64)).toInt32))] [(.int ((t - (t / (sz.toInt64)) * (sz.toInt64)).toInt32)), (.ref b)])) rfl (by rw [hml]; rfl) (Steps.refl _) (argsL := [(.int ((t - (t / (sz.toInt64)) * (sz.toInt64)).toInt32))]) (rest := []) (lenOf pd5 rfl) rfl (by show 2 * 0 + _ ≤ _; exact Nat.le_of_eq rfl) (hb hby d7_17) (fun _ _ => ⟨rfl, e3, (by decide : 0 + 0 ≤ _), (by decide : 0 + 0 ≤ _)⟩)
  dsimp only [Pt.U, Pt.locs, Pt.cells, Pt.slots] at X4 l4 y4 z4 st4 hQ4
  subst l4 y4 z4
  obtain ⟨rfl, N4q, e4⟩ := hQ4
  have N4 := Fr.app N0 N4q
  have pre5 : ∀ tZ, Steps p.tables e below (T4.setTop (mkF m 20 #[.val (.ref r), .val (.int ((t - (t / (sz.toInt64)) * (sz.toInt64)).toInt32))] [(.int (own_b ((0 : Int32) < wi ∧ ¬ ((wv &&& ((1 : Int64) <<< (((t - (t / (sz.toInt64)) * (sz.toInt64)).toInt32) &&& 0x3f).toInt64)) = (0 : Int64)))))])) tZ → Steps p.tables e below (s₁.setTop (entryFrame m #[(.ref r)] 2)) tZ := fun tZ kZ => pre0 tZ (by
    show Steps p.tables e below (s₁.setTop (mkF m 0 #[.val (.ref r), .unset] [])) _
    refine XS.aloadN X0.here hx rfl (hb hby d7_0) rfl rfl ?_
    show Steps p.tables e below (s₁.setTop (mkF m 1 #[.val (.ref r), .unset] [(.ref r)])) _
    refine st1 _ ?_
    show Steps p.tables e below (T1.setTop (mkF m 4 #[.val (.ref r), .unset] [(.long t)])) _
    refine XS.aloadN X1.here hx rfl (hb hby d7_4) rfl rfl ?_
    show Steps p.tables e below (T1.setTop (mkF m 5 #[.val (.ref r), .unset] [(.ref r), (.long t)])) _
    refine st2 _ ?_
    show Steps p.tables e below (T2.setTop (mkF m 8 #[.val (.ref r), .unset] [(.int sz), (.long t)])) _
    refine XS.i2l X2.here hx rfl (hb hby d7_8) rfl ?_
    show Steps p.tables e below (T2.setTop (mkF m 9 #[.val (.ref r), .unset] [(.long (sz.toInt64)), (.long t)])) _
    refine XS.lrem X2.here hx rfl (hb hby d7_9) rfl (own_snz hsz) ?_
    show Steps p.tables e below (T2.setTop (mkF m 10 #[.val (.ref r), .unset] [(.long (t - (t / (sz.toInt64)) * (sz.toInt64)))])) _
    refine XS.l2i X2.here hx rfl (hb hby d7_10) rfl ?_
    show Steps p.tables e below (T2.setTop (mkF m 11 #[.val (.ref r), .unset] [(.int ((t - (t / (sz.toInt64)) * (sz.toInt64)).toInt32))])) _
    refine XS.istoreN X2.here hx rfl (hb hby d7_11) rfl (l' := #[.val (.ref r), .val (.int ((t - (t / (sz.toInt64)) * (sz.toInt64)).toInt32))]) rfl ?_
    show Steps p.tables e below (T2.setTop (mkF m 12 #[.val (.ref r), .val (.int ((t - (t / (sz.toInt64)) * (sz.toInt64)).toInt32))] [])) _
    refine XS.aloadN X2.here hx rfl (hb hby d7_12) rfl rfl ?_
    show Steps p.tables e below (T2.setTop (mkF m 13 #[.val (.ref r), .val (.int ((t - (t / (sz.toInt64)) * (sz.toInt64)).toInt32))] [(.ref r)])) _
    refine st3 _ ?_
    show Steps p.tables e below (T3.setTop (mkF m 16 #[.val (.ref r), .val (.int ((t - (t / (sz.toInt64)) * (sz.toInt64)).toInt32))] [(.ref b)])) _
    refine XS.iloadN X3.here hx rfl (hb hby d7_16) rfl  ?_
    show Steps p.tables e below (T3.setTop (mkF m 17 #[.val (.ref r), .val (.int ((t - (t / (sz.toInt64)) * (sz.toInt64)).toInt32))] [(.int ((t - (t / (sz.toInt64)) * (sz.toInt64)).toInt32)), (.ref b)])) _
    refine st4.trans ?_
    exact kZ)
  by_cases hc6 : ((0 : Int32) < wi ∧ ¬ ((wv &&& ((1 : Int64) <<< (((t - (t / (sz.toInt64)) * (sz.toInt64)).toInt32) &&& 0x3f).toInt64)) = (0 : Int64)))
  ·  -- yes
    obtain ⟨T7, X7, e7, st7⟩ := getF X4 hx hZ hown (host := "") (Or.inl (ow hw 36 rfl)) Via.refl e4 G1 (g := (mkF m 24 #[.val (.ref r), .val (.int ((t - (t / (sz.toInt64)) * (sz.toInt64)).toInt32))] [(.ref r)])) rfl rfl (hb hby d7_24)
    obtain ⟨cq8, kq8, q8a, q8b, q8c⟩ := isOf hZ e7 F0
    obtain ⟨_, _, ⟨T8, L8, k8, n8⟩, -, X8, ⟨Lc8, hQ8, l8, y8, z8⟩, st8⟩ := X7.virtualBack hx (y := (⟨"java/util/BitSet", "clear", "(I)V"⟩ : MethodName)) (z := (⟨"java/util/BitSet", "clear", "(I)V"⟩ : MethodName)) hown (mvT hZ (ow hw 80 rfl)) (mvT hZ (ow hw 81 rfl)) (notFace_of_selects (args := #[]) (mvT hZ (ow hw 83 rfl))) (mvT hZ (ow hw 83 rfl)) (mvT hZ (ow hw 82 rfl)) (by decide) (backOf (W := 0) (rm14 l Z a0 hw [] b ((t - (t / (sz.toInt64)) * (sz.toInt64)).toInt32) wa kl wi wv h0 n0 Z0 F0 F1 F2 F3 (own_ix hsz ht0 ht6).1 (own_ix hsz ht0 ht6).2 hwi S1 O1 g1 g2 n1) hZ (ow hw 84 rfl) (ow hw 16 rfl) (by decide) (by decide)) q8a q8c (g := (mkF m 28 #[.val (.ref r), .val (.int ((t - (t / (sz.toInt64)) * (sz.toInt64)).toInt32))] [(.int ((t - (t / (sz.toInt64)) * (sz.toInt64)).toInt32)), (.ref b)])) rfl (by rw [hml]; rfl) (Steps.refl _) (argsL := [(.int ((t - (t / (sz.toInt64)) * (sz.toInt64)).toInt32))]) (rest := []) (lenOf pd2 rfl) rfl (by show 2 * 0 + _ ≤ _; exact Nat.le_of_eq rfl) (hb hby d7_28) (fun _ _ => ⟨rfl, e7, (by decide : 0 + 0 ≤ _), (by decide : 0 + 0 ≤ _)⟩)
    dsimp only [Pt.U, Pt.locs, Pt.cells, Pt.slots] at X8 l8 y8 z8 st8 hQ8
    subst l8 y8 z8
    obtain ⟨wn_9, vn_10, rfl, N8q, K8, u8_0, f8_0, f8_1, f8_2, f8_3⟩ := hQ8
    have N8 := Fr.app N4 N8q
    have Z11 : n0 ≤ T8.heap.size := Nat.le_trans Z0 K8.1
    have K12 : Keep h0 T8.heap [r, b, wa] := (Keep.refl h0 [r, b, wa]).trans K8 (allS (P := fun x => x ∈ _ ∨ _) (Or.inl (List.mem_of_getElem? (i := 1) rfl)) (allS (P := fun x => x ∈ _ ∨ _) (Or.inl (List.mem_of_getElem? (i := 2) rfl)) all0))
    have fa13 : Fld Z T8.heap r oE "_marked" "I" (.int mk) := (G4.keep K8 (ninS n2 (ninS n3 nin0)))
    obtain ⟨T14, X14, e14, st14⟩ := getF X8 hx hZ hown (host := "") (Or.inl (ow hw 78 rfl)) Via.refl rfl fa13 (g := (mkF m 33 #[.val (.ref r), .val (.int ((t - (t / (sz.toInt64)) * (sz.toInt64)).toInt32))] [(.ref r), (.ref r)])) rfl rfl (hb hby d7_33)
    have fa15 : Exa Z T8.heap r oE := (G0.keep K8)
    obtain ⟨T16, h16, X16, e16, W16, st16⟩ := putF X14 hx hZ hown (host := "") (Or.inl (ow hw 78 rfl)) Via.refl e14 fa13 fa15 (Or.inl (ow hw 79 rfl)) (ow hw 6 rfl) (ty := .int) (by decide) rfl rfl (g := (mkF m 38 #[.val (.ref r), .val (.int ((t - (t / (sz.toInt64)) * (sz.toInt64)).toInt32))] [(.int (mk - (1 : Int32))), (.ref r)])) rfl rfl (hb hby d7_38)
    have fw16 : Fld Z h16 r oE "_marked" "I" (.int (mk - (1 : Int32))) := fa13.same W16
    have Z17 : n0 ≤ h16.size := Nat.le_trans Z11 (Nat.le_of_eq W16.size.symm)
    have K18 : Keep h0 h16 [r, b, wa] := K12.wr W16 (Or.inl (List.mem_of_getElem? (i := 0) rfl))
    have N16 := Fr.snoc X16 N8 g0
    have fa19 : Fld Z h16 r oE "_taken" "J" (.long t) := ((G3.keep K8 (ninS n2 (ninS n3 nin0))).other W16 (Or.inr (slot_ne (Or.inl (ow hw 46 rfl)) (Or.inl (ow hw 79 rfl)) (by decide) (t := .long) (t' := .int) (by decide) (by decide))))
    obtain ⟨T20, X20, e20, st20⟩ := getF X16 hx hZ hown (host := "") (Or.inl (ow hw 45 rfl)) Via.refl e16 fa19 (g := (mkF m 43 #[.val (.ref r), .val (.int ((t - (t / (sz.toInt64)) * (sz.toInt64)).toInt32))] [(.ref r), (.ref r)])) rfl rfl (hb hby d7_43)
    have fa21 : Exa Z h16 r oE := (fa15.wr W16)
    obtain ⟨T22, h22, X22, e22, W22, st22⟩ := putF X20 hx hZ hown (host := "") (Or.inl (ow hw 45 rfl)) Via.refl e20 fa19 fa21 (Or.inl (ow hw 46 rfl)) (ow hw 6 rfl) (ty := .long) (by decide) rfl rfl (g := (mkF m 48 #[.val (.ref r), .val (.int ((t - (t / (sz.toInt64)) * (sz.toInt64)).toInt32))] [(.long (t + (1 : Int64))), (.ref r)])) rfl rfl (hb hby d7_48)
    have fw22 : Fld Z h22 r oE "_taken" "J" (.long (t + (1 : Int64))) := fa19.same W22
    have Z23 : n0 ≤ h22.size := Nat.le_trans Z17 (Nat.le_of_eq W22.size.symm)
    have K24 : Keep h0 h22 [r, b, wa] := K18.wr W22 (Or.inl (List.mem_of_getElem? (i := 0) rfl))
    have N22 := Fr.snoc X22 N16 g0
    obtain ⟨fsZ, hrZ, hrun, hended, hW, hsame⟩ := X22.leave (v := none) (fun _ => rfl)
    have fa25 : Exa Z h22 r oE := (fa21.wr W22)
    have fa26 : Fld Z h22 r oE "_marks" "Ljava/util/BitSet;" (.ref b) := (((G1.keep K8 (ninS n2 (ninS n3 nin0))).other W16 (Or.inr (slot_ne (Or.inr (ow hw 37 rfl)) (Or.inl (ow hw 79 rfl)) (by decide) (t := (.object "java/util/BitSet")) (t' := .int) (by decide) (by decide)))).other W22 (Or.inr (slot_ne (Or.inr (ow hw 37 rfl)) (Or.inl (ow hw 46 rfl)) (by decide) (t := (.object "java/util/BitSet")) (t' := .long) (by decide) (by decide))))
    have fa27 : Fld Z h22 r oE "_size" "I" (.int sz) := (((G2.keep K8 (ninS n2 (ninS n3 nin0))).other W16 (Or.inr (slot_ne (Or.inr (ow hw 39 rfl)) (Or.inl (ow hw 79 rfl)) (by decide) (t := .int) (t' := .int) (by decide) (by decide)))).other W22 (Or.inr (slot_ne (Or.inr (ow hw 39 rfl)) (Or.inl (ow hw 46 rfl)) (by decide) (t := .int) (t' := .long) (by decide) (by decide))))
    have fa28 : Fld Z h22 r oE "_marked" "I" (.int (mk - (1 : Int32))) := (fw16.other W22 (Or.inr (slot_ne (Or.inl (ow hw 79 rfl)) (Or.inl (ow hw 46 rfl)) (by decide) (t := .int) (t' := .long) (by decide) (by decide))))
    have fa29 : Exa Z h22 b "java/util/BitSet" := ((f8_0.wr W16).wr W22)
    have fa30 : Fld Z h22 b "java/util/BitSet" "wordsInUse" "I" (.int wn_9) := ((f8_1.other W16 (Or.inl (Ne.symm n2))).other W22 (Or.inl (Ne.symm n2)))
    have fa31 : Fld Z h22 b "java/util/BitSet" "words" "[J" (.ref wa) := ((f8_2.other W16 (Or.inl (Ne.symm n2))).other W22 (Or.inl (Ne.symm n2)))
    have fa32 : Arv Z h22 wa kl .long (1 : Int32) [(.long vn_10)] (.long (0 : Int64)) := ((f8_3.other W16 (Ne.symm n3)).other W22 (Ne.symm n3))
    refine ⟨_, _, pre5 _ ?_, hrun, hended, _, _, rfl, ?_, ⟨_, rfl⟩, hW, hsame.mono (by decide) (by decide)⟩
    · show Steps p.tables e below (T4.setTop (mkF m 20 #[.val (.ref r), .val (.int ((t - (t / (sz.toInt64)) * (sz.toInt64)).toInt32))] [(.int (own_b ((0 : Int32) < wi ∧ ¬ ((wv &&& ((1 : Int64) <<< (((t - (t / (sz.toInt64)) * (sz.toInt64)).toInt32) &&& 0x3f).toInt64)) = (0 : Int64)))))])) _
      refine XS.ifNo X4.here hx rfl (hb hby d7_20) rfl ((if0 _ _).trans (feq (own_b_nz hc6)).1) ?_
      show Steps p.tables e below (T4.setTop (mkF m 23 #[.val (.ref r), .val (.int ((t - (t / (sz.toInt64)) * (sz.toInt64)).toInt32))] [])) _
      refine XS.aloadN X4.here hx rfl (hb hby d7_23) rfl rfl ?_
      show Steps p.tables e below (T4.setTop (mkF m 24 #[.val (.ref r), .val (.int ((t - (t / (sz.toInt64)) * (sz.toInt64)).toInt32))] [(.ref r)])) _
      refine st7 _ ?_
      show Steps p.tables e below (T7.setTop (mkF m 27 #[.val (.ref r), .val (.int ((t - (t / (sz.toInt64)) * (sz.toInt64)).toInt32))] [(.ref b)])) _
      refine XS.iloadN X7.here hx rfl (hb hby d7_27) rfl  ?_
      show Steps p.tables e below (T7.setTop (mkF m 28 #[.val (.ref r), .val (.int ((t - (t / (sz.toInt64)) * (sz.toInt64)).toInt32))] [(.int ((t - (t / (sz.toInt64)) * (sz.toInt64)).toInt32)), (.ref b)])) _
      refine st8.trans ?_
      show Steps p.tables e below (T8.setTop (mkF m 31 #[.val (.ref r), .val (.int ((t - (t / (sz.toInt64)) * (sz.toInt64)).toInt32))] [])) _
      refine XS.aloadN X8.here hx rfl (hb hby d7_31) rfl rfl ?_
      show Steps p.tables e below (T8.setTop (mkF m 32 #[.val (.ref r), .val (.int ((t - (t / (sz.toInt64)) * (sz.toInt64)).toInt32))] [(.ref r)])) _
      refine XS.dup X8.here hx rfl (hb hby d7_32) rfl rfl ?_
      show Steps p.tables e below (T8.setTop (mkF m 33 #[.val (.ref r), .val (.int ((t - (t / (sz.toInt64)) * (sz.toInt64)).toInt32))] [(.ref r), (.ref r)])) _
      refine st14 _ ?_
      show Steps p.tables e below (T14.setTop (mkF m 36 #[.val (.ref r), .val (.int ((t - (t / (sz.toInt64)) * (sz.toInt64)).toInt32))] [(.int mk), (.ref r)])) _
      refine XS.iconst X14.here hx rfl (hb hby d7_36) ?_
      show Steps p.tables e below (T14.setTop (mkF m 37 #[.val (.ref r), .val (.int ((t - (t / (sz.toInt64)) * (sz.toInt64)).toInt32))] [(.int (1 : Int32)), (.int mk), (.ref r)])) _
      refine XS.isub X14.here hx rfl (hb hby d7_37) rfl ?_
      show Steps p.tables e below (T14.setTop (mkF m 38 #[.val (.ref r), .val (.int ((t - (t / (sz.toInt64)) * (sz.toInt64)).toInt32))] [(.int (mk - (1 : Int32))), (.ref r)])) _
      refine st16 _ ?_
      show Steps p.tables e below (T16.setTop (mkF m 41 #[.val (.ref r), .val (.int ((t - (t / (sz.toInt64)) * (sz.toInt64)).toInt32))] [])) _
      refine XS.aloadN X16.here hx rfl (hb hby d7_41) rfl rfl ?_
      show Steps p.tables e below (T16.setTop (mkF m 42 #[.val (.ref r), .val (.int ((t - (t / (sz.toInt64)) * (sz.toInt64)).toInt32))] [(.ref r)])) _
      refine XS.dup X16.here hx rfl (hb hby d7_42) rfl rfl ?_
      show Steps p.tables e below (T16.setTop (mkF m 43 #[.val (.ref r), .val (.int ((t - (t / (sz.toInt64)) * (sz.toInt64)).toInt32))] [(.ref r), (.ref r)])) _
      refine st20 _ ?_
      show Steps p.tables e below (T20.setTop (mkF m 46 #[.val (.ref r), .val (.int ((t - (t / (sz.toInt64)) * (sz.toInt64)).toInt32))] [(.long t), (.ref r)])) _
      refine XS.lconst X20.here hx rfl (hb hby d7_46) ?_
      show Steps p.tables e below (T20.setTop (mkF m 47 #[.val (.ref r), .val (.int ((t - (t / (sz.toInt64)) * (sz.toInt64)).toInt32))] [(.long (1 : Int64)), (.long t), (.ref r)])) _
      refine XS.ladd X20.here hx rfl (hb hby d7_47) rfl ?_
      show Steps p.tables e below (T20.setTop (mkF m 48 #[.val (.ref r), .val (.int ((t - (t / (sz.toInt64)) * (sz.toInt64)).toInt32))] [(.long (t + (1 : Int64))), (.ref r)])) _
      refine st22 _ ?_
      show Steps p.tables e below (T22.setTop (mkF m 51 #[.val (.ref r), .val (.int ((t - (t / (sz.toInt64)) * (sz.toInt64)).toInt32))] [])) _
      exact X22.returnOut hx Bd.returns (hb hby d7_51) hrZ
    · show Q7 Z r b sz t mk wa kl wi wv h0 n0 _ T22.heap _
      rw [e22]
      exact ⟨(mk - (1 : Int32)), wn_9, vn_10, rfl, N22, K24, (by first | assumption | exact own_b01 _ | decide | omega), fa25, fa26, fa27, fw22, fa28, fa29, fa30, fa31, fa32⟩
  ·  -- no
    obtain ⟨T33, X33, e33, st33⟩ := getF X4 hx hZ hown (host := "") (Or.inl (ow hw 45 rfl)) Via.refl e4 G3 (g := (mkF m 43 #[.val (.ref r), .val (.int ((t - (t / (sz.toInt64)) * (sz.toInt64)).toInt32))] [(.ref r), (.ref r)])) rfl rfl (hb hby d7_43)
    obtain ⟨T34, h34, X34, e34, W34, st34⟩ := putF X33 hx hZ hown (host := "") (Or.inl (ow hw 45 rfl)) Via.refl e33 G3 G0 (Or.inl (ow hw 46 rfl)) (ow hw 6 rfl) (ty := .long) (by decide) rfl rfl (g := (mkF m 48 #[.val (.ref r), .val (.int ((t - (t / (sz.toInt64)) * (sz.toInt64)).toInt32))] [(.long (t + (1 : Int64))), (.ref r)])) rfl rfl (hb hby d7_48)
    have fw34 : Fld Z h34 r oE "_taken" "J" (.long (t + (1 : Int64))) := G3.same W34
    have Z35 : n0 ≤ h34.size := Nat.le_trans Z0 (Nat.le_of_eq W34.size.symm)
    have K36 : Keep h0 h34 [r, b, wa] := (Keep.refl h0 [r, b, wa]).wr W34 (Or.inl (List.mem_of_getElem? (i := 0) rfl))
    have N34 := Fr.snoc X34 N4 g0
    obtain ⟨fsZ, hrZ, hrun, hended, hW, hsame⟩ := X34.leave (v := none) (fun _ => rfl)
    have fa37 : Exa Z h34 r oE := (G0.wr W34)
    have fa38 : Fld Z h34 r oE "_marks" "Ljava/util/BitSet;" (.ref b) := (G1.other W34 (Or.inr (slot_ne (Or.inr (ow hw 37 rfl)) (Or.inl (ow hw 46 rfl)) (by decide) (t := (.object "java/util/BitSet")) (t' := .long) (by decide) (by decide))))
    have fa39 : Fld Z h34 r oE "_size" "I" (.int sz) := (G2.other W34 (Or.inr (slot_ne (Or.inr (ow hw 39 rfl)) (Or.inl (ow hw 46 rfl)) (by decide) (t := .int) (t' := .long) (by decide) (by decide))))
    have fa40 : Fld Z h34 r oE "_marked" "I" (.int mk) := (G4.other W34 (Or.inr (slot_ne (Or.inl (ow hw 79 rfl)) (Or.inl (ow hw 46 rfl)) (by decide) (t := .int) (t' := .long) (by decide) (by decide))))
    have fa41 : Exa Z h34 b "java/util/BitSet" := (F0.wr W34)
    have fa42 : Fld Z h34 b "java/util/BitSet" "wordsInUse" "I" (.int wi) := (F1.other W34 (Or.inl (Ne.symm n2)))
    have fa43 : Fld Z h34 b "java/util/BitSet" "words" "[J" (.ref wa) := (F2.other W34 (Or.inl (Ne.symm n2)))
    have fa44 : Arv Z h34 wa kl .long (1 : Int32) [(.long wv)] (.long (0 : Int64)) := (F3.other W34 (Ne.symm n3))
    refine ⟨_, _, pre5 _ ?_, hrun, hended, _, _, rfl, ?_, ⟨_, rfl⟩, hW, hsame.mono (by decide) (by decide)⟩
    · show Steps p.tables e below (T4.setTop (mkF m 20 #[.val (.ref r), .val (.int ((t - (t / (sz.toInt64)) * (sz.toInt64)).toInt32))] [(.int (own_b ((0 : Int32) < wi ∧ ¬ ((wv &&& ((1 : Int64) <<< (((t - (t / (sz.toInt64)) * (sz.toInt64)).toInt32) &&& 0x3f).toInt64)) = (0 : Int64)))))])) _
      refine XS.ifYes X4.here hx rfl (pc0 := 20) (pc' := 41) rfl (hb hby d7_20) rfl ((if0 _ _).trans (teq (own_b_f hc6)).1) (by decide) (by decide) ?_
      show Steps p.tables e below (T4.setTop (mkF m 41 #[.val (.ref r), .val (.int ((t - (t / (sz.toInt64)) * (sz.toInt64)).toInt32))] [])) _
      refine XS.aloadN X4.here hx rfl (hb hby d7_41) rfl rfl ?_
      show Steps p.tables e below (T4.setTop (mkF m 42 #[.val (.ref r), .val (.int ((t - (t / (sz.toInt64)) * (sz.toInt64)).toInt32))] [(.ref r)])) _
      refine XS.dup X4.here hx rfl (hb hby d7_42) rfl rfl ?_
      show Steps p.tables e below (T4.setTop (mkF m 43 #[.val (.ref r), .val (.int ((t - (t / (sz.toInt64)) * (sz.toInt64)).toInt32))] [(.ref r), (.ref r)])) _
      refine st33 _ ?_
      show Steps p.tables e below (T33.setTop (mkF m 46 #[.val (.ref r), .val (.int ((t - (t / (sz.toInt64)) * (sz.toInt64)).toInt32))] [(.long t), (.ref r)])) _
      refine XS.lconst X33.here hx rfl (hb hby d7_46) ?_
      show Steps p.tables e below (T33.setTop (mkF m 47 #[.val (.ref r), .val (.int ((t - (t / (sz.toInt64)) * (sz.toInt64)).toInt32))] [(.long (1 : Int64)), (.long t), (.ref r)])) _
      refine XS.ladd X33.here hx rfl (hb hby d7_47) rfl ?_
      show Steps p.tables e below (T33.setTop (mkF m 48 #[.val (.ref r), .val (.int ((t - (t / (sz.toInt64)) * (sz.toInt64)).toInt32))] [(.long (t + (1 : Int64))), (.ref r)])) _
      refine st34 _ ?_
      show Steps p.tables e below (T34.setTop (mkF m 51 #[.val (.ref r), .val (.int ((t - (t / (sz.toInt64)) * (sz.toInt64)).toInt32))] [])) _
      exact X34.returnOut hx Bd.returns (hb hby d7_51) hrZ
    · show Q7 Z r b sz t mk wa kl wi wv h0 n0 _ T34.heap _
      rw [e34]
      exact ⟨mk, wi, wv, rfl, N34, K36, (by first | assumption | exact own_b01 _ | decide | omega), fa37, fa38, fa39, fw34, fa40, fa41, fa42, fa43, fa44⟩
theorem d10_0 : decode prog_11_method_3_code 0 = .ok (.aload_n 0, 1) := by decide +kernel
theorem d10_1 : decode prog_11_method_3_code 1 = .ok (.getfield 10, 3) := by decide +kernel
theorem d10_4 : decode prog_11_method_3_code 4 = .ok (.aload_n 0, 1) := by decide +kernel
theorem d10_5 : decode prog_11_method_3_code 5 = .ok (.getfield 20, 3) := by decide +kernel
theorem d10_8 : decode prog_11_method_3_code 8 = .ok (.lconst 1, 1) := by decide +kernel
theorem d10_9 : decode prog_11_method_3_code 9 = .ok (.lsub, 1) := by decide +kernel
theorem d10_10 : decode prog_11_method_3_code 10 = .ok (.aload_n 0, 1) := by decide +kernel
theorem d10_11 : decode prog_11_method_3_code 11 = .ok (.getfield 16, 3) := by decide +kernel
theorem d10_14 : decode prog_11_method_3_code 14 = .ok (.i2l, 1) := by decide +kernel
theorem d10_15 : decode prog_11_method_3_code 15 = .ok (.lrem, 1) := by decide +kernel
theorem d10_16 : decode prog_11_method_3_code 16 = .ok (.l2i, 1) := by decide +kernel
theorem d10_17 : decode prog_11_method_3_code 17 = .ok (.invokevirtual 35, 3) := by decide +kernel
theorem d10_20 : decode prog_11_method_3_code 20 = .ok (.aload_n 0, 1) := by decide +kernel
theorem d10_21 : decode prog_11_method_3_code 21 = .ok (.dup, 1) := by decide +kernel
theorem d10_22 : decode prog_11_method_3_code 22 = .ok (.getfield 32, 3) := by decide +kernel
theorem d10_25 : decode prog_11_method_3_code 25 = .ok (.iconst 1, 1) := by decide +kernel
theorem d10_26 : decode prog_11_method_3_code 26 = .ok (.iadd, 1) := by decide +kernel
theorem d10_27 : decode prog_11_method_3_code 27 = .ok (.putfield 32, 3) := by decide +kernel
theorem d10_30 : decode prog_11_method_3_code 30 = .ok (.return_, 1) := by decide +kernel
theorem ef10 (m : MethodId) (r : Addr) : entryFrame m #[(.ref r)] 1 = mkF m 0 #[.val (.ref r)] [] := by first | (simp [entryFrame, mkF, argsToLocals, Value.category]; done) | rfl
def Q10 (Z : State) (r : Addr) (b : Addr) (sz : Int32) (t : Int64) (mk : Int32) (wa : Addr) (kl : ClassId) (wi : Int32) (wv : Int64) (h0 : Heap) (n0 : Nat) (v : Option Value) (h : Heap) (L : List Loc) : Prop := ∃ (mn : Int32) (wn : Int32) (vn : Int64), v = none ∧ Fr n0 L ∧ Keep h0 h [r, b, wa] ∧ (wn = (0 : Int32) ∨ wn = (1 : Int32)) ∧ Exa Z h r oE ∧ Fld Z h r oE "_marks" "Ljava/util/BitSet;" (.ref b) ∧ Fld Z h r oE "_size" "I" (.int sz) ∧ Fld Z h r oE "_taken" "J" (.long t) ∧ Fld Z h r oE "_marked" "I" (.int mn) ∧ Exa Z h b "java/util/BitSet" ∧ Fld Z h b "java/util/BitSet" "wordsInUse" "I" (.int wn) ∧ Fld Z h b "java/util/BitSet" "words" "[J" (.ref wa) ∧ Arv Z h wa kl .long (1 : Int32) [(.long vn)] (.long (0 : Int64))
set_option maxRecDepth 65536 in
set_option maxHeartbeats 40000000 in
theorem rm10 (l : Launch) (Z : State) (a0 : Array Value) (hw : ∀ d ∈ tables_1, d.before a0 Z = true) (ws : List Jvm.Cond) (r : Addr) (b : Addr) (sz : Int32) (t : Int64) (mk : Int32) (wa : Addr) (kl : ClassId) (wi : Int32) (wv : Int64) (h0 : Heap) (n0 : Nat) (Z0 : n0 ≤ h0.size) (G0 : Exa Z h0 r oE) (G1 : Fld Z h0 r oE "_marks" "Ljava/util/BitSet;" (.ref b)) (G2 : Fld Z h0 r oE "_size" "I" (.int sz)) (G3 : Fld Z h0 r oE "_taken" "J" (.long t)) (G4 : Fld Z h0 r oE "_marked" "I" (.int mk)) (F0 : Exa Z h0 b "java/util/BitSet") (F1 : Fld Z h0 b "java/util/BitSet" "wordsInUse" "I" (.int wi)) (F2 : Fld Z h0 b "java/util/BitSet" "words" "[J" (.ref wa)) (F3 : Arv Z h0 wa kl .long (1 : Int32) [(.long wv)] (.long (0 : Int64))) (hsz : ¬ (sz < (1 : Int32))) (ht0 : ¬ ((t - (1 : Int64)) < (0 : Int64))) (ht6 : ¬ ((6 : Int64) < (t - (1 : Int64)))) (hwi : wi = (0 : Int32) ∨ wi = (1 : Int32)) (S1 : Sta Z Z.heap "java/util/BitSet" "$assertionsDisabled" "Z" (.int (1 : Int32))) (O1 : Old Z n0 h0) (g0 : n0 ≤ r) (n2 : r ≠ b) (n3 : r ≠ wa) (g1 : n0 ≤ b) (g2 : n0 ≤ wa) (n1 : b ≠ wa) :
    MetFree l (⟨oE, "markLast", "()V"⟩ : MethodName) (head1 (Jvm.Cond.code (⟨oE, "markLast", "()V"⟩ : MethodName) prog_11_method_3_code 1 none :: ws) ({ frames := 3, cells := 0, slots := 0, locals := 42 } : Room)) (fun a U => a = #[(.ref r)] ∧ Z.Warmed39 U.vm ∧ U.heap = h0) (fun _ _ _ _ _ => True) (fun _ U o U' => ∃ v L, o = .returned v ∧ Q10 Z r b sz t mk wa kl wi wv h0 n0 v U'.heap L ∧ FrameEnd U o U' L ({ frames := 3, cells := 0, slots := 0, locals := 42 } : Room).cells ({ frames := 3, cells := 0, slots := 0, locals := 42 } : Room).slots) := by
  refine MetFree.of_bodySF (plainFor_of_name pn3) hisR ?_
  intro p e s m args below meth c s₁ Bd hml0 hP hK
  obtain ⟨rfl, hZ, hh⟩ := hP
  have hx := Bd.exec
  have hby := Bd.bytes
  have hml : c.maxLocals = 1 := hml0
  have hown : s.vm.findClass oE = some m.cls := findClass_of_methodNamed Bd.named
  have hnm := (name_of_methodNamed Bd.named Bd.method).1
  have X0 : Stand p l e ({ frames := 3, cells := 0, slots := 0, locals := 42 } : Room) s m #[(.ref r)] below meth c s₁ [] 0 0 := Stand.of_body Bd
  have e0 : s₁.heap = h0 := by rw [← hh, Bd.state]; rfl
  have N0 := Fr.nil n0
  have pre0 : ∀ tZ, Steps p.tables e below (s₁.setTop (mkF m 0 #[.val (.ref r)] [])) tZ → Steps p.tables e below (s₁.setTop (entryFrame m #[(.ref r)] 1)) tZ := fun tZ kZ => castTop (ef10 m r) kZ
  obtain ⟨T1, X1, e1, st1⟩ := getF X0 hx hZ hown (host := "") (Or.inl (ow hw 36 rfl)) Via.refl e0 G1 (g := (mkF m 1 #[.val (.ref r)] [(.ref r)])) rfl rfl (hb hby d10_1)
  obtain ⟨T2, X2, e2, st2⟩ := getF X1 hx hZ hown (host := "") (Or.inl (ow hw 45 rfl)) Via.refl e1 G3 (g := (mkF m 5 #[.val (.ref r)] [(.ref r), (.ref b)])) rfl rfl (hb hby d10_5)
  obtain ⟨T3, X3, e3, st3⟩ := getF X2 hx hZ hown (host := "") (Or.inl (ow hw 38 rfl)) Via.refl e2 G2 (g := (mkF m 11 #[.val (.ref r)] [(.ref r), (.long (t - (1 : Int64))), (.ref b)])) rfl rfl (hb hby d10_11)
  obtain ⟨cq4, kq4, q4a, q4b, q4c⟩ := isOf hZ e3 F0
  obtain ⟨_, _, ⟨T4, L4, k4, n4⟩, -, X4, ⟨Lc4, hQ4, l4, y4, z4⟩, st4⟩ := X3.virtualBack hx (y := (⟨"java/util/BitSet", "set", "(I)V"⟩ : MethodName)) (z := (⟨"java/util/BitSet", "set", "(I)V"⟩ : MethodName)) hown (mvT hZ (ow hw 63 rfl)) (mvT hZ (ow hw 64 rfl)) (notFace_of_selects (args := #[]) (mvT hZ (ow hw 66 rfl))) (mvT hZ (ow hw 66 rfl)) (mvT hZ (ow hw 65 rfl)) (by decide) (backOf (W := 0) (rm11 l Z a0 hw [] b (((t - (1 : Int64)) - ((t - (1 : Int64)) / (sz.toInt64)) * (sz.toInt64)).toInt32) wa kl wi wv h0 n0 Z0 F0 F1 F2 F3 (own_ix hsz ht0 ht6).1 (own_ix hsz ht0 ht6).2 hwi S1 O1 g1 g2 n1) hZ (ow hw 67 rfl) (ow hw 16 rfl) (by decide) (by decide)) q4a q4c (g := (mkF m 17 #[.val (.ref r)] [(.int (((t - (1 : Int64)) - ((t - (1 : Int64)) / (sz.toInt64)) * (sz.toInt64)).toInt32)), (.ref b)])) rfl (by rw [hml]; rfl) (Steps.refl _) (argsL := [(.int (((t - (1 : Int64)) - ((t - (1 : Int64)) / (sz.toInt64)) * (sz.toInt64)).toInt32))]) (rest := []) (lenOf pd2 rfl) rfl (by show 2 * 0 + _ ≤ _; exact Nat.le_of_eq rfl) (hb hby d10_17) (fun _ _ => ⟨rfl, e3, (by decide : 0 + 0 ≤ _), (by decide : 0 + 0 ≤ _)⟩)
  dsimp only [Pt.U, Pt.locs, Pt.cells, Pt.slots] at X4 l4 y4 z4 st4 hQ4
  subst l4 y4 z4
  obtain ⟨wn_5, vn_6, rfl, N4q, K4, u4_0, f4_0, f4_1, f4_2, f4_3⟩ := hQ4
  have N4 := Fr.app N0 N4q
  have Z7 : n0 ≤ T4.heap.size := Nat.le_trans Z0 K4.1
  have K8 : Keep h0 T4.heap [r, b, wa] := (Keep.refl h0 [r, b, wa]).trans K4 (allS (P := fun x => x ∈ _ ∨ _) (Or.inl (List.mem_of_getElem? (i := 1) rfl)) (allS (P := fun x => x ∈ _ ∨ _) (Or.inl (List.mem_of_getElem? (i := 2) rfl)) all0))
  have fa9 : Fld Z T4.heap r oE "_marked" "I" (.int mk) := (G4.keep K4 (ninS n2 (ninS n3 nin0)))
  obtain ⟨T10, X10, e10, st10⟩ := getF X4 hx hZ hown (host := "") (Or.inl (ow hw 78 rfl)) Via.refl rfl fa9 (g := (mkF m 22 #[.val (.ref r)] [(.ref r), (.ref r)])) rfl rfl (hb hby d10_22)
  have fa11 : Exa Z T4.heap r oE := (G0.keep K4)
  obtain ⟨T12, h12, X12, e12, W12, st12⟩ := putF X10 hx hZ hown (host := "") (Or.inl (ow hw 78 rfl)) Via.refl e10 fa9 fa11 (Or.inl (ow hw 79 rfl)) (ow hw 6 rfl) (ty := .int) (by decide) rfl rfl (g := (mkF m 27 #[.val (.ref r)] [(.int (mk + (1 : Int32))), (.ref r)])) rfl rfl (hb hby d10_27)
  have fw12 : Fld Z h12 r oE "_marked" "I" (.int (mk + (1 : Int32))) := fa9.same W12
  have Z13 : n0 ≤ h12.size := Nat.le_trans Z7 (Nat.le_of_eq W12.size.symm)
  have K14 : Keep h0 h12 [r, b, wa] := K8.wr W12 (Or.inl (List.mem_of_getElem? (i := 0) rfl))
  have N12 := Fr.snoc X12 N4 g0
  obtain ⟨fsZ, hrZ, hrun, hended, hW, hsame⟩ := X12.leave (v := none) (fun _ => rfl)
  have fa15 : Exa Z h12 r oE := (fa11.wr W12)
  have fa16 : Fld Z h12 r oE "_marks" "Ljava/util/BitSet;" (.ref b) := ((G1.keep K4 (ninS n2 (ninS n3 nin0))).other W12 (Or.inr (slot_ne (Or.inr (ow hw 37 rfl)) (Or.inl (ow hw 79 rfl)) (by decide) (t := (.object "java/util/BitSet")) (t' := .int) (by decide) (by decide))))
  have fa17 : Fld Z h12 r oE "_size" "I" (.int sz) := ((G2.keep K4 (ninS n2 (ninS n3 nin0))).other W12 (Or.inr (slot_ne (Or.inr (ow hw 39 rfl)) (Or.inl (ow hw 79 rfl)) (by decide) (t := .int) (t' := .int) (by decide) (by decide))))
  have fa18 : Fld Z h12 r oE "_taken" "J" (.long t) := ((G3.keep K4 (ninS n2 (ninS n3 nin0))).other W12 (Or.inr (slot_ne (Or.inl (ow hw 46 rfl)) (Or.inl (ow hw 79 rfl)) (by decide) (t := .long) (t' := .int) (by decide) (by decide))))
  have fa19 : Exa Z h12 b "java/util/BitSet" := (f4_0.wr W12)
  have fa20 : Fld Z h12 b "java/util/BitSet" "wordsInUse" "I" (.int wn_5) := (f4_1.other W12 (Or.inl (Ne.symm n2)))
  have fa21 : Fld Z h12 b "java/util/BitSet" "words" "[J" (.ref wa) := (f4_2.other W12 (Or.inl (Ne.symm n2)))
  have fa22 : Arv Z h12 wa kl .long (1 : Int32) [(.long vn_6)] (.long (0 : Int64)) := (f4_3.other W12 (Ne.symm n3))
  refine ⟨_, _, pre0 _ ?_, hrun, hended, _, _, rfl, ?_, ⟨_, rfl⟩, hW, hsame.mono (by decide) (by decide)⟩
  · show Steps p.tables e below (s₁.setTop (mkF m 0 #[.val (.ref r)] [])) _
    refine XS.aloadN X0.here hx rfl (hb hby d10_0) rfl rfl ?_
    show Steps p.tables e below (s₁.setTop (mkF m 1 #[.val (.ref r)] [(.ref r)])) _
    refine st1 _ ?_
    show Steps p.tables e below (T1.setTop (mkF m 4 #[.val (.ref r)] [(.ref b)])) _
    refine XS.aloadN X1.here hx rfl (hb hby d10_4) rfl rfl ?_
    show Steps p.tables e below (T1.setTop (mkF m 5 #[.val (.ref r)] [(.ref r), (.ref b)])) _
    refine st2 _ ?_
    show Steps p.tables e below (T2.setTop (mkF m 8 #[.val (.ref r)] [(.long t), (.ref b)])) _
    refine XS.lconst X2.here hx rfl (hb hby d10_8) ?_
    show Steps p.tables e below (T2.setTop (mkF m 9 #[.val (.ref r)] [(.long (1 : Int64)), (.long t), (.ref b)])) _
    refine XS.lsub X2.here hx rfl (hb hby d10_9) rfl ?_
    show Steps p.tables e below (T2.setTop (mkF m 10 #[.val (.ref r)] [(.long (t - (1 : Int64))), (.ref b)])) _
    refine XS.aloadN X2.here hx rfl (hb hby d10_10) rfl rfl ?_
    show Steps p.tables e below (T2.setTop (mkF m 11 #[.val (.ref r)] [(.ref r), (.long (t - (1 : Int64))), (.ref b)])) _
    refine st3 _ ?_
    show Steps p.tables e below (T3.setTop (mkF m 14 #[.val (.ref r)] [(.int sz), (.long (t - (1 : Int64))), (.ref b)])) _
    refine XS.i2l X3.here hx rfl (hb hby d10_14) rfl ?_
    show Steps p.tables e below (T3.setTop (mkF m 15 #[.val (.ref r)] [(.long (sz.toInt64)), (.long (t - (1 : Int64))), (.ref b)])) _
    refine XS.lrem X3.here hx rfl (hb hby d10_15) rfl (own_snz hsz) ?_
    show Steps p.tables e below (T3.setTop (mkF m 16 #[.val (.ref r)] [(.long ((t - (1 : Int64)) - ((t - (1 : Int64)) / (sz.toInt64)) * (sz.toInt64))), (.ref b)])) _
    refine XS.l2i X3.here hx rfl (hb hby d10_16) rfl ?_
    show Steps p.tables e below (T3.setTop (mkF m 17 #[.val (.ref r)] [(.int (((t - (1 : Int64)) - ((t - (1 : Int64)) / (sz.toInt64)) * (sz.toInt64)).toInt32)), (.ref b)])) _
    refine st4.trans ?_
    show Steps p.tables e below (T4.setTop (mkF m 20 #[.val (.ref r)] [])) _
    refine XS.aloadN X4.here hx rfl (hb hby d10_20) rfl rfl ?_
    show Steps p.tables e below (T4.setTop (mkF m 21 #[.val (.ref r)] [(.ref r)])) _
    refine XS.dup X4.here hx rfl (hb hby d10_21) rfl rfl ?_
    show Steps p.tables e below (T4.setTop (mkF m 22 #[.val (.ref r)] [(.ref r), (.ref r)])) _
    refine st10 _ ?_
    show Steps p.tables e below (T10.setTop (mkF m 25 #[.val (.ref r)] [(.int mk), (.ref r)])) _
    refine XS.iconst X10.here hx rfl (hb hby d10_25) ?_
    show Steps p.tables e below (T10.setTop (mkF m 26 #[.val (.ref r)] [(.int (1 : Int32)), (.int mk), (.ref r)])) _
    refine XS.iadd X10.here hx rfl (hb hby d10_26) rfl ?_
    show Steps p.tables e below (T10.setTop (mkF m 27 #[.val (.ref r)] [(.int (mk + (1 : Int32))), (.ref r)])) _
    refine st12 _ ?_
    show Steps p.tables e below (T12.setTop (mkF m 30 #[.val (.ref r)] [])) _
    exact X12.returnOut hx Bd.returns (hb hby d10_30) hrZ
  · show Q10 Z r b sz t mk wa kl wi wv h0 n0 _ T12.heap _
    rw [e12]
    exact ⟨(mk + (1 : Int32)), wn_5, vn_6, rfl, N12, K14, (by first | assumption | exact own_b01 _ | decide | omega), fa15, fa16, fa17, fa18, fw12, fa19, fa20, fa21, fa22⟩
theorem d16_0 : decode prog_11_method_5_code 0 = .ok (.aload_n 0, 1) := by decide +kernel
theorem d16_1 : decode prog_11_method_5_code 1 = .ok (.getfield 20, 3) := by decide +kernel
theorem d16_4 : decode prog_11_method_5_code 4 = .ok (.aload_n 0, 1) := by decide +kernel
theorem d16_5 : decode prog_11_method_5_code 5 = .ok (.getfield 16, 3) := by decide +kernel
theorem d16_8 : decode prog_11_method_5_code 8 = .ok (.i2l, 1) := by decide +kernel
theorem d16_9 : decode prog_11_method_5_code 9 = .ok (.lcmp, 1) := by decide +kernel
theorem d16_10 : decode prog_11_method_5_code 10 = .ok (.ifCond .lt 7, 3) := by decide +kernel
theorem d16_17 : decode prog_11_method_5_code 17 = .ok (.iconst 0, 1) := by decide +kernel
theorem d16_18 : decode prog_11_method_5_code 18 = .ok (.ireturn, 1) := by decide +kernel
theorem d16_13 : decode prog_11_method_5_code 13 = .ok (.iconst 1, 1) := by decide +kernel
theorem d16_14 : decode prog_11_method_5_code 14 = .ok (.goto 4, 3) := by decide +kernel
theorem ef16 (m : MethodId) (r : Addr) : entryFrame m #[(.ref r)] 1 = mkF m 0 #[.val (.ref r)] [] := by first | (simp [entryFrame, mkF, argsToLocals, Value.category]; done) | rfl
def Q16 (Z : State) (r : Addr) (sz : Int32) (t : Int64) (h0 : Heap) (n0 : Nat) (v : Option Value) (h : Heap) (L : List Loc) : Prop := v = some (.int (own_b (¬ (t < (sz.toInt64))))) ∧ Fr n0 L ∧ h = h0
set_option maxRecDepth 65536 in
set_option maxHeartbeats 40000000 in
theorem rm16 (l : Launch) (Z : State) (a0 : Array Value) (hw : ∀ d ∈ tables_1, d.before a0 Z = true) (ws : List Jvm.Cond) (r : Addr) (sz : Int32) (t : Int64) (h0 : Heap) (n0 : Nat) (Z0 : n0 ≤ h0.size) (G2 : Fld Z h0 r oE "_size" "I" (.int sz)) (G3 : Fld Z h0 r oE "_taken" "J" (.long t)) :
    MetFree l (⟨oE, "full", "()Z"⟩ : MethodName) (head1 (Jvm.Cond.code (⟨oE, "full", "()Z"⟩ : MethodName) prog_11_method_5_code 1 (some .boolean) :: ws) ({ frames := 0, cells := 0, slots := 0, locals := 0 } : Room)) (fun a U => a = #[(.ref r)] ∧ Z.Warmed39 U.vm ∧ U.heap = h0) (fun _ _ _ _ _ => True) (fun _ U o U' => ∃ v L, o = .returned v ∧ Q16 Z r sz t h0 n0 v U'.heap L ∧ FrameEnd U o U' L ({ frames := 0, cells := 0, slots := 0, locals := 0 } : Room).cells ({ frames := 0, cells := 0, slots := 0, locals := 0 } : Room).slots) := by
  refine MetFree.of_bodySF (plainFor_of_name pn3) hisR ?_
  intro p e s m args below meth c s₁ Bd hml0 hP hK
  obtain ⟨rfl, hZ, hh⟩ := hP
  have hx := Bd.exec
  have hby := Bd.bytes
  have hml : c.maxLocals = 1 := hml0
  have hown : s.vm.findClass oE = some m.cls := findClass_of_methodNamed Bd.named
  have hnm := (name_of_methodNamed Bd.named Bd.method).1
  have X0 : Stand p l e ({ frames := 0, cells := 0, slots := 0, locals := 0 } : Room) s m #[(.ref r)] below meth c s₁ [] 0 0 := Stand.of_body Bd
  have e0 : s₁.heap = h0 := by rw [← hh, Bd.state]; rfl
  have N0 := Fr.nil n0
  have pre0 : ∀ tZ, Steps p.tables e below (s₁.setTop (mkF m 0 #[.val (.ref r)] [])) tZ → Steps p.tables e below (s₁.setTop (entryFrame m #[(.ref r)] 1)) tZ := fun tZ kZ => castTop (ef16 m r) kZ
  obtain ⟨T1, X1, e1, st1⟩ := getF X0 hx hZ hown (host := "") (Or.inl (ow hw 45 rfl)) Via.refl e0 G3 (g := (mkF m 1 #[.val (.ref r)] [(.ref r)])) rfl rfl (hb hby d16_1)
  obtain ⟨T2, X2, e2, st2⟩ := getF X1 hx hZ hown (host := "") (Or.inl (ow hw 38 rfl)) Via.refl e1 G2 (g := (mkF m 5 #[.val (.ref r)] [(.ref r), (.long t)])) rfl rfl (hb hby d16_5)
  have pre3 : ∀ tZ, Steps p.tables e below (T2.setTop (mkF m 10 #[.val (.ref r)] [(.int (lcmpW t (sz.toInt64)))])) tZ → Steps p.tables e below (s₁.setTop (entryFrame m #[(.ref r)] 1)) tZ := fun tZ kZ => pre0 tZ (by
    show Steps p.tables e below (s₁.setTop (mkF m 0 #[.val (.ref r)] [])) _
    refine XS.aloadN X0.here hx rfl (hb hby d16_0) rfl rfl ?_
    show Steps p.tables e below (s₁.setTop (mkF m 1 #[.val (.ref r)] [(.ref r)])) _
    refine st1 _ ?_
    show Steps p.tables e below (T1.setTop (mkF m 4 #[.val (.ref r)] [(.long t)])) _
    refine XS.aloadN X1.here hx rfl (hb hby d16_4) rfl rfl ?_
    show Steps p.tables e below (T1.setTop (mkF m 5 #[.val (.ref r)] [(.ref r), (.long t)])) _
    refine st2 _ ?_
    show Steps p.tables e below (T2.setTop (mkF m 8 #[.val (.ref r)] [(.int sz), (.long t)])) _
    refine XS.i2l X2.here hx rfl (hb hby d16_8) rfl ?_
    show Steps p.tables e below (T2.setTop (mkF m 9 #[.val (.ref r)] [(.long (sz.toInt64)), (.long t)])) _
    refine XS.lcmp X2.here hx rfl (hb hby d16_9) rfl ?_
    exact kZ)
  by_cases hc4 : t < (sz.toInt64)
  ·  -- yes
    obtain ⟨fsZ, hrZ, hrun, hended, hW, hsame⟩ := X2.leave (v := some (.int (0 : Int32))) (fun h => by rw [Bd.returns] at h; cases h)
    refine ⟨_, _, pre3 _ ?_, hrun, hended, _, _, rfl, ?_, ⟨_, rfl⟩, hW, hsame.mono (by decide) (by decide)⟩
    · show Steps p.tables e below (T2.setTop (mkF m 10 #[.val (.ref r)] [(.int (lcmpW t (sz.toInt64)))])) _
      refine XS.ifYes X2.here hx rfl (pc0 := 10) (pc' := 17) rfl (hb hby d16_10) rfl ((if0 _ _).trans (tlt ((lw_lt _ _).mpr hc4)).1) (by decide) (by decide) ?_
      show Steps p.tables e below (T2.setTop (mkF m 17 #[.val (.ref r)] [])) _
      refine XS.iconst X2.here hx rfl (hb hby d16_17) ?_
      show Steps p.tables e below (T2.setTop (mkF m 18 #[.val (.ref r)] [(.int (0 : Int32))])) _
      exact retN X2 hx (t := .boolean) Bd.returns (by simp) (hb hby d16_18) hrZ
    · show Q16 Z r sz t h0 n0 _ T2.heap _
      rw [e2]
      exact ⟨(congrArg (fun z => some (Value.int z)) (by first | rfl | (simp only [own_b, if_pos hc4]; done) | (simp only [own_b, eq_true hc4, and_true, true_and, and_false, false_and, or_true, true_or, or_false, false_or, not_true_eq_false, not_false_eq_true, if_true, if_false, reduceIte]; done) | (simp [own_b, hc4]; done))), N0, rfl⟩
  ·  -- no
    obtain ⟨fsZ, hrZ, hrun, hended, hW, hsame⟩ := X2.leave (v := some (.int (1 : Int32))) (fun h => by rw [Bd.returns] at h; cases h)
    refine ⟨_, _, pre3 _ ?_, hrun, hended, _, _, rfl, ?_, ⟨_, rfl⟩, hW, hsame.mono (by decide) (by decide)⟩
    · show Steps p.tables e below (T2.setTop (mkF m 10 #[.val (.ref r)] [(.int (lcmpW t (sz.toInt64)))])) _
      refine XS.ifNo X2.here hx rfl (hb hby d16_10) rfl ((if0 _ _).trans (flt (fun q => absurd ((lw_lt _ _).mp q) hc4)).1) ?_
      show Steps p.tables e below (T2.setTop (mkF m 13 #[.val (.ref r)] [])) _
      refine XS.iconst X2.here hx rfl (hb hby d16_13) ?_
      show Steps p.tables e below (T2.setTop (mkF m 14 #[.val (.ref r)] [(.int (1 : Int32))])) _
      refine XS.goto X2.here hx rfl (pc0 := 14) (pc' := 18) rfl (hb hby d16_14) (by decide) (by decide) ?_
      show Steps p.tables e below (T2.setTop (mkF m 18 #[.val (.ref r)] [(.int (1 : Int32))])) _
      exact retN X2 hx (t := .boolean) Bd.returns (by simp) (hb hby d16_18) hrZ
    · show Q16 Z r sz t h0 n0 _ T2.heap _
      rw [e2]
      exact ⟨(congrArg (fun z => some (Value.int z)) (by first | rfl | (simp only [own_b, if_neg hc4]; done) | (simp only [own_b, eq_false hc4, and_true, true_and, and_false, false_and, or_true, true_or, or_false, false_or, not_true_eq_false, not_false_eq_true, if_true, if_false, reduceIte]; done) | (simp [own_b, hc4]; done))), N0, rfl⟩
theorem pn6 : plainName "com/example/portunus/portunus/admission/LastEventsFullPinLaw" = true := by first | (simp [plainName, overriddenIn]; done) | decide +kernel
theorem pd7 : parseMethodDescriptor "(II)I" = some ⟨[.int, .int], some .int⟩ := by decide +kernel
theorem pd8 : parseMethodDescriptor "()Z" = some ⟨[], some .boolean⟩ := by decide +kernel
theorem ef0 (m : MethodId) (p0 : Int32) (p1 : Int32) (p2 : Int32) : entryFrame m #[(.int p0), (.int p1), (.int p2)] maxLocals = mkF m 0 #[.val (.int p0), .val (.int p1), .val (.int p2), .unset, .unset, .unset, .unset, .unset] [] := by first | (simp [entryFrame, mkF, argsToLocals, Value.category, maxLocals]; done) | rfl
def Q0 (Z : State) (p0 : Int32) (p1 : Int32) (p2 : Int32) (h0 : Heap) (n0 : Nat) (v : Option Value) (h : Heap) (L : List Loc) : Prop := v = some (.int (1 : Int32)) ∧ Fr n0 L
set_option maxRecDepth 65536 in
set_option maxHeartbeats 40000000 in
theorem rm0 (l : Launch) (Z : State) (a0 : Array Value) (hw : ∀ d ∈ tables_1, d.before a0 Z = true) (ws : List Jvm.Cond) (p0 : Int32) (p1 : Int32) (p2 : Int32) (h0 : Heap) (n0 : Nat) (Z0 : n0 ≤ h0.size) (S1 : Sta Z Z.heap "java/util/BitSet" "$assertionsDisabled" "Z" (.int (1 : Int32))) (O1 : Old Z n0 h0) :
    MetFree l x (head1 (Jvm.Cond.code x code maxLocals ret :: ws) room_1) (fun a U => a = #[(.int p0), (.int p1), (.int p2)] ∧ Z.Warmed39 U.vm ∧ U.heap = h0) (fun _ _ _ _ _ => True) (fun _ U o U' => ∃ v L, o = .returned v ∧ Q0 Z p0 p1 p2 h0 n0 v U'.heap L ∧ FrameEnd U o U' L room_1.cells room_1.slots) := by
  refine MetFree.of_bodySF (plainFor_of_name pn6) hisR ?_
  intro p e s m args below meth c s₁ Bd hml0 hP hK
  obtain ⟨rfl, hZ, hh⟩ := hP
  have hx := Bd.exec
  have hby := Bd.bytes
  have hml : c.maxLocals = 8 := hml0
  have hown : s.vm.findClass "com/example/portunus/portunus/admission/LastEventsFullPinLaw" = some m.cls := findClass_of_methodNamed Bd.named
  have hnm := (name_of_methodNamed Bd.named Bd.method).1
  have X0 : Stand p l e room_1 s m #[(.int p0), (.int p1), (.int p2)] below meth c s₁ [] 0 0 := Stand.of_body Bd
  have e0 : s₁.heap = h0 := by rw [← hh, Bd.state]; rfl
  have N0 := Fr.nil n0
  have pre0 : ∀ tZ, Steps p.tables e below (s₁.setTop (mkF m 0 #[.val (.int p0), .val (.int p1), .val (.int p2), .unset, .unset, .unset, .unset, .unset] [])) tZ → Steps p.tables e below (s₁.setTop (entryFrame m #[(.int p0), (.int p1), (.int p2)] maxLocals)) tZ := fun tZ kZ => castTop (ef0 m p0 p1 p2) kZ
  have pre1 : ∀ tZ, Steps p.tables e below (s₁.setTop (mkF m 3 #[.val (.int p0), .val (.int p1), .val (.int p2), .unset, .unset, .unset, .unset, .unset] [(.int (p2 &&& (1 : Int32)))])) tZ → Steps p.tables e below (s₁.setTop (entryFrame m #[(.int p0), (.int p1), (.int p2)] maxLocals)) tZ := fun tZ kZ => pre0 tZ (by
    show Steps p.tables e below (s₁.setTop (mkF m 0 #[.val (.int p0), .val (.int p1), .val (.int p2), .unset, .unset, .unset, .unset, .unset] [])) _
    refine XS.iloadN X0.here hx rfl (hb hby at_0) rfl  ?_
    show Steps p.tables e below (s₁.setTop (mkF m 1 #[.val (.int p0), .val (.int p1), .val (.int p2), .unset, .unset, .unset, .unset, .unset] [(.int p2)])) _
    refine XS.iconst X0.here hx rfl (hb hby at_1) ?_
    show Steps p.tables e below (s₁.setTop (mkF m 2 #[.val (.int p0), .val (.int p1), .val (.int p2), .unset, .unset, .unset, .unset, .unset] [(.int (1 : Int32)), (.int p2)])) _
    refine XS.iand X0.here hx rfl (hb hby at_2) rfl ?_
    exact kZ)
  by_cases hc2 : (p2 &&& (1 : Int32)) = (0 : Int32)
  ·  -- yes
    obtain ⟨_, _, ⟨T3, L3, k3, n3⟩, -, X3, ⟨Lc3, hQ3, l3, y3, z3⟩, st3⟩ := Jvm.LawKit.callS X0 hx (y := (⟨"java/lang/Math", "max", "(II)I"⟩ : MethodName)) hown (mvT hZ (ow hw 1 rfl)) (mvT hZ (ow hw 2 rfl)) (mvT hZ (ow hw 3 rfl)) (mvT hZ (ow hw 4 rfl)) (by decide) (backOf (W := 0) (rm1 l Z a0 hw [] (1 : Int32) (p0 &&& (2147483647 : Int32)) h0 n0 Z0 ) hZ (ow hw 4 rfl) (ow hw 3 rfl) (by decide) (by decide)) (g := (mkF m 21 #[.val (.int p0), .val (.int p1), .val (.int p2), .unset, .unset, .unset, .unset, .unset] [(.int (p0 &&& (2147483647 : Int32))), (.int (1 : Int32))])) rfl (by rw [hml]; rfl) (argsL := [(.int (1 : Int32)), (.int (p0 &&& (2147483647 : Int32)))]) (rest := []) (lenOf pd7 rfl) rfl (by show 2 * 0 + _ ≤ _; exact Nat.le_of_eq rfl) (hb hby at_21) (fun _ _ => ⟨rfl, e0, (by decide : 0 + 0 ≤ _), (by decide : 0 + 0 ≤ _)⟩)
    dsimp only [Pt.U, Pt.locs, Pt.cells, Pt.slots] at X3 l3 y3 z3 st3 hQ3
    subst l3 y3 z3
    obtain ⟨rfl, N3q, e3⟩ := hQ3
    have N3 := Fr.app N0 N3q
    have pre4 : ∀ tZ, Steps p.tables e below (T3.setTop (mkF m 25 #[.val (.int p0), .val (.int p1), .val (.int p2), .val (.int (if (1 : Int32) < (p0 &&& (2147483647 : Int32)) then (p0 &&& (2147483647 : Int32)) else (1 : Int32))), .unset, .unset, .unset, .unset] [])) tZ → Steps p.tables e below (s₁.setTop (entryFrame m #[(.int p0), (.int p1), (.int p2)] maxLocals)) tZ := fun tZ kZ => pre1 tZ (by
      show Steps p.tables e below (s₁.setTop (mkF m 3 #[.val (.int p0), .val (.int p1), .val (.int p2), .unset, .unset, .unset, .unset, .unset] [(.int (p2 &&& (1 : Int32)))])) _
      refine XS.ifYes X0.here hx rfl (pc0 := 3) (pc' := 16) rfl (hb hby at_3) rfl ((if0 _ _).trans (teq hc2).1) (by decide) (by decide) ?_
      show Steps p.tables e below (s₁.setTop (mkF m 16 #[.val (.int p0), .val (.int p1), .val (.int p2), .unset, .unset, .unset, .unset, .unset] [])) _
      refine XS.iconst X0.here hx rfl (hb hby at_16) ?_
      show Steps p.tables e below (s₁.setTop (mkF m 17 #[.val (.int p0), .val (.int p1), .val (.int p2), .unset, .unset, .unset, .unset, .unset] [(.int (1 : Int32))])) _
      refine XS.iloadN X0.here hx rfl (hb hby at_17) rfl  ?_
      show Steps p.tables e below (s₁.setTop (mkF m 18 #[.val (.int p0), .val (.int p1), .val (.int p2), .unset, .unset, .unset, .unset, .unset] [(.int p0), (.int (1 : Int32))])) _
      refine X0.ldcInt hx hown (mvT hZ (ow hw 0 rfl)) (g := (mkF m 18 #[.val (.int p0), .val (.int p1), .val (.int p2), .unset, .unset, .unset, .unset, .unset] [(.int p0), (.int (1 : Int32))])) rfl (hb hby at_18) _ ?_
      show Steps p.tables e below (s₁.setTop (mkF m 20 #[.val (.int p0), .val (.int p1), .val (.int p2), .unset, .unset, .unset, .unset, .unset] [(.int (2147483647 : Int32)), (.int p0), (.int (1 : Int32))])) _
      refine XS.iand X0.here hx rfl (hb hby at_20) rfl ?_
      show Steps p.tables e below (s₁.setTop (mkF m 21 #[.val (.int p0), .val (.int p1), .val (.int p2), .unset, .unset, .unset, .unset, .unset] [(.int (p0 &&& (2147483647 : Int32))), (.int (1 : Int32))])) _
      refine st3 _ ?_
      show Steps p.tables e below (T3.setTop (mkF m 24 #[.val (.int p0), .val (.int p1), .val (.int p2), .unset, .unset, .unset, .unset, .unset] [(.int (if (1 : Int32) < (p0 &&& (2147483647 : Int32)) then (p0 &&& (2147483647 : Int32)) else (1 : Int32)))])) _
      refine XS.istoreN X3.here hx rfl (hb hby at_24) rfl (l' := #[.val (.int p0), .val (.int p1), .val (.int p2), .val (.int (if (1 : Int32) < (p0 &&& (2147483647 : Int32)) then (p0 &&& (2147483647 : Int32)) else (1 : Int32))), .unset, .unset, .unset, .unset]) rfl ?_
      exact kZ)
    obtain ⟨sz, hszv⟩ : ∃ z, z = (if (1 : Int32) < (p0 &&& (2147483647 : Int32)) then (p0 &&& (2147483647 : Int32)) else (1 : Int32)) := ⟨_, rfl⟩
    rw [← hszv] at pre4
    have hsz : ¬ (sz < (1 : Int32)) := own_sz2 hszv
    have pre5 : ∀ tZ, Steps p.tables e below (T3.setTop (mkF m 31 #[.val (.int p0), .val (.int p1), .val (.int p2), .val (.int sz), .val (.int (p1 &&& (7 : Int32))), .unset, .unset, .unset] [])) tZ → Steps p.tables e below (s₁.setTop (entryFrame m #[(.int p0), (.int p1), (.int p2)] maxLocals)) tZ := fun tZ kZ => pre4 tZ (by
      show Steps p.tables e below (T3.setTop (mkF m 25 #[.val (.int p0), .val (.int p1), .val (.int p2), .val (.int sz), .unset, .unset, .unset, .unset] [])) _
      refine XS.iloadN X3.here hx rfl (hb hby at_25) rfl  ?_
      show Steps p.tables e below (T3.setTop (mkF m 26 #[.val (.int p0), .val (.int p1), .val (.int p2), .val (.int sz), .unset, .unset, .unset, .unset] [(.int p1)])) _
      refine XS.bipush X3.here hx rfl (hb hby at_26) ?_
      show Steps p.tables e below (T3.setTop (mkF m 28 #[.val (.int p0), .val (.int p1), .val (.int p2), .val (.int sz), .unset, .unset, .unset, .unset] [(.int (7 : Int32)), (.int p1)])) _
      refine XS.iand X3.here hx rfl (hb hby at_28) rfl ?_
      show Steps p.tables e below (T3.setTop (mkF m 29 #[.val (.int p0), .val (.int p1), .val (.int p2), .val (.int sz), .unset, .unset, .unset, .unset] [(.int (p1 &&& (7 : Int32)))])) _
      refine XS.istore X3.here hx rfl (hb hby at_29) rfl (l' := #[.val (.int p0), .val (.int p1), .val (.int p2), .val (.int sz), .val (.int (p1 &&& (7 : Int32))), .unset, .unset, .unset]) rfl ?_
      exact kZ)
    obtain ⟨kv, hkv⟩ : ∃ z, z = (p1 &&& (7 : Int32)) := ⟨_, rfl⟩
    rw [← hkv] at pre5
    have pre6 : ∀ tZ, Steps p.tables e below (T3.setTop (mkF m 34 #[.val (.int p0), .val (.int p1), .val (.int p2), .val (.int sz), .val (.int kv), .unset, .unset, .unset] [(.int (p2 &&& (2 : Int32)))])) tZ → Steps p.tables e below (s₁.setTop (entryFrame m #[(.int p0), (.int p1), (.int p2)] maxLocals)) tZ := fun tZ kZ => pre5 tZ (by
      show Steps p.tables e below (T3.setTop (mkF m 31 #[.val (.int p0), .val (.int p1), .val (.int p2), .val (.int sz), .val (.int kv), .unset, .unset, .unset] [])) _
      refine XS.iloadN X3.here hx rfl (hb hby at_31) rfl  ?_
      show Steps p.tables e below (T3.setTop (mkF m 32 #[.val (.int p0), .val (.int p1), .val (.int p2), .val (.int sz), .val (.int kv), .unset, .unset, .unset] [(.int p2)])) _
      refine XS.iconst X3.here hx rfl (hb hby at_32) ?_
      show Steps p.tables e below (T3.setTop (mkF m 33 #[.val (.int p0), .val (.int p1), .val (.int p2), .val (.int sz), .val (.int kv), .unset, .unset, .unset] [(.int (2 : Int32)), (.int p2)])) _
      refine XS.iand X3.here hx rfl (hb hby at_33) rfl ?_
      exact kZ)
    have pre8 : ∀ tZ, Steps p.tables e below (T3.setTop (mkF m 42 #[.val (.int p0), .val (.int p1), .val (.int p2), .val (.int sz), .val (.int kv), .unset, .unset, .unset] [(.int (own_b (¬ ((p2 &&& (2 : Int32)) = (0 : Int32)))))])) tZ → Steps p.tables e below (s₁.setTop (entryFrame m #[(.int p0), (.int p1), (.int p2)] maxLocals)) tZ := fun tZ kZ => pre6 tZ (by
      by_cases hc7 : (p2 &&& (2 : Int32)) = (0 : Int32)
      ·  -- yes
        show Steps p.tables e below (T3.setTop (mkF m 34 #[.val (.int p0), .val (.int p1), .val (.int p2), .val (.int sz), .val (.int kv), .unset, .unset, .unset] [(.int (p2 &&& (2 : Int32)))])) _
        refine XS.ifYes X3.here hx rfl (pc0 := 34) (pc' := 41) rfl (hb hby at_34) rfl ((if0 _ _).trans (teq hc7).1) (by decide) (by decide) ?_
        show Steps p.tables e below (T3.setTop (mkF m 41 #[.val (.int p0), .val (.int p1), .val (.int p2), .val (.int sz), .val (.int kv), .unset, .unset, .unset] [])) _
        refine XS.iconst X3.here hx rfl (hb hby at_41) ?_
        have ekZ : (own_b (¬ ((p2 &&& (2 : Int32)) = (0 : Int32)))) = (0 : Int32) := by first | (simp only [own_b, eq_true hc7, and_true, true_and, and_false, false_and, or_true, true_or, or_false, false_or, not_true_eq_false, not_false_eq_true, if_true, if_false, reduceIte]; done) | (simp [own_b, hc7]; done)
        rw [ekZ] at kZ
        exact kZ
      ·  -- no
        show Steps p.tables e below (T3.setTop (mkF m 34 #[.val (.int p0), .val (.int p1), .val (.int p2), .val (.int sz), .val (.int kv), .unset, .unset, .unset] [(.int (p2 &&& (2 : Int32)))])) _
        refine XS.ifNo X3.here hx rfl (hb hby at_34) rfl ((if0 _ _).trans (feq hc7).1) ?_
        show Steps p.tables e below (T3.setTop (mkF m 37 #[.val (.int p0), .val (.int p1), .val (.int p2), .val (.int sz), .val (.int kv), .unset, .unset, .unset] [])) _
        refine XS.iconst X3.here hx rfl (hb hby at_37) ?_
        show Steps p.tables e below (T3.setTop (mkF m 38 #[.val (.int p0), .val (.int p1), .val (.int p2), .val (.int sz), .val (.int kv), .unset, .unset, .unset] [(.int (1 : Int32))])) _
        refine XS.goto X3.here hx rfl (pc0 := 38) (pc' := 42) rfl (hb hby at_38) (by decide) (by decide) ?_
        have ekZ : (own_b (¬ ((p2 &&& (2 : Int32)) = (0 : Int32)))) = (1 : Int32) := by first | (simp only [own_b, eq_false hc7, and_true, true_and, and_false, false_and, or_true, true_or, or_false, false_or, not_true_eq_false, not_false_eq_true, if_true, if_false, reduceIte]; done) | (simp [own_b, hc7]; done)
        rw [ekZ] at kZ
        exact kZ)
    obtain ⟨T9, h9, X9, e9, E9, A9, D9, -, st9⟩ := newO X3 hx hZ hown (ow hw 5 rfl) (ow hw 6 rfl) (ow hw 7 rfl) e3 (g := (mkF m 44 #[.val (.int p0), .val (.int p1), .val (.int p2), .val (.int sz), .val (.int kv), .val (.int (own_b (¬ ((p2 &&& (2 : Int32)) = (0 : Int32))))), .unset, .unset] [])) rfl (hb hby at_44) (by decide) (by decide)
    obtain ⟨b9, g9⟩ : ∃ z, z = h0.size := ⟨_, rfl⟩
    rw [← g9] at A9 D9 st9
    have gn_b9 : n0 ≤ b9 := Nat.le_trans Z0 (Nat.le_of_eq g9.symm)
    have Z10 : n0 ≤ h9.size := Nat.le_trans Z0 E9.1
    have F__marks_b9 : Fld Z h9 b9 oE "_marks" "Ljava/util/BitSet;" .null := D9 (Or.inr (ow hw 37 rfl)) (ty := (.object "java/util/BitSet")) (by decide)
    have F__size_b9 : Fld Z h9 b9 oE "_size" "I" (.int (0 : Int32)) := D9 (Or.inr (ow hw 39 rfl)) (ty := .int) (by decide)
    have F__taken_b9 : Fld Z h9 b9 oE "_taken" "J" (.long (0 : Int64)) := D9 (Or.inl (ow hw 46 rfl)) (ty := .long) (by decide)
    have F__marked_b9 : Fld Z h9 b9 oE "_marked" "I" (.int (0 : Int32)) := D9 (Or.inl (ow hw 79 rfl)) (ty := .int) (by decide)
    obtain ⟨_, _, ⟨T11, L11, k11, n11⟩, -, X11, ⟨Lc11, hQ11, l11, y11, z11⟩, st11⟩ := X9.specialBack hx (y := (⟨oE, "<init>", "(I)V"⟩ : MethodName)) rfl hown (mvT hZ (ow hw 8 rfl)) (mvT hZ (ow hw 9 rfl)) (mvT hZ (ow hw 10 rfl)) (by decide) (backOf (W := 1) (rm2 l Z a0 hw [] b9 sz .null (.int (0 : Int32)) h9 n0 Z10 A9 F__marks_b9 F__size_b9 F__taken_b9 F__marked_b9 gn_b9) hZ (ow hw 10 rfl) (ow hw 7 rfl) (by decide) (by decide)) (g := (mkF m 49 #[.val (.int p0), .val (.int p1), .val (.int p2), .val (.int sz), .val (.int kv), .val (.int (own_b (¬ ((p2 &&& (2 : Int32)) = (0 : Int32))))), .unset, .unset] [(.int sz), (.ref b9), (.ref b9)])) rfl (by rw [hml]; rfl) (Steps.refl _) (a := b9) (argsL := [(.int sz)]) (rest := [(.ref b9)]) (lenOf pd2 rfl) rfl (by show 2 * 0 + _ ≤ _; exact Nat.le_of_eq rfl) (hb hby at_49) (fun _ _ => ⟨rfl, e9, (by decide : 1 + 2 ≤ _), (by decide : 4 + 4 ≤ _)⟩)
    dsimp only [Pt.U, Pt.locs, Pt.cells, Pt.slots] at X11 l11 y11 z11 st11 hQ11
    subst l11 y11 z11
    obtain ⟨b_12, wa_13, kl_14, rfl, N11q, K11, u11_0, u11_1, u11_2, u11_3, u11_4, f11_0, f11_1, f11_2, f11_3, f11_4, f11_5, f11_6, f11_7, f11_8⟩ := hQ11
    have N11 := Fr.app N3 N11q
    have Z15 : n0 ≤ T11.heap.size := Nat.le_trans Z10 K11.1
    have ne16 : b9 ≠ b_12 := Nat.ne_of_lt (Nat.lt_of_lt_of_le A9.lt u11_1)
    have ne17 : b9 ≠ wa_13 := Nat.ne_of_lt (Nat.lt_of_lt_of_le A9.lt u11_3)
    have pre18 : ∀ tZ, Steps p.tables e below (T11.setTop (mkF m 56 #[.val (.int p0), .val (.int p1), .val (.int p2), .val (.int sz), .val (.int kv), .val (.int (own_b (¬ ((p2 &&& (2 : Int32)) = (0 : Int32))))), .val (.ref b9), .unset] [(.int kv)])) tZ → Steps p.tables e below (s₁.setTop (entryFrame m #[(.int p0), (.int p1), (.int p2)] maxLocals)) tZ := fun tZ kZ => pre8 tZ (by
      show Steps p.tables e below (T3.setTop (mkF m 42 #[.val (.int p0), .val (.int p1), .val (.int p2), .val (.int sz), .val (.int kv), .unset, .unset, .unset] [(.int (own_b (¬ ((p2 &&& (2 : Int32)) = (0 : Int32)))))])) _
      refine XS.istore X3.here hx rfl (hb hby at_42) rfl (l' := #[.val (.int p0), .val (.int p1), .val (.int p2), .val (.int sz), .val (.int kv), .val (.int (own_b (¬ ((p2 &&& (2 : Int32)) = (0 : Int32))))), .unset, .unset]) rfl ?_
      show Steps p.tables e below (T3.setTop (mkF m 44 #[.val (.int p0), .val (.int p1), .val (.int p2), .val (.int sz), .val (.int kv), .val (.int (own_b (¬ ((p2 &&& (2 : Int32)) = (0 : Int32))))), .unset, .unset] [])) _
      refine st9 _ ?_
      show Steps p.tables e below (T9.setTop (mkF m 47 #[.val (.int p0), .val (.int p1), .val (.int p2), .val (.int sz), .val (.int kv), .val (.int (own_b (¬ ((p2 &&& (2 : Int32)) = (0 : Int32))))), .unset, .unset] [(.ref b9)])) _
      refine XS.dup X9.here hx rfl (hb hby at_47) rfl rfl ?_
      show Steps p.tables e below (T9.setTop (mkF m 48 #[.val (.int p0), .val (.int p1), .val (.int p2), .val (.int sz), .val (.int kv), .val (.int (own_b (¬ ((p2 &&& (2 : Int32)) = (0 : Int32))))), .unset, .unset] [(.ref b9), (.ref b9)])) _
      refine XS.iloadN X9.here hx rfl (hb hby at_48) rfl  ?_
      show Steps p.tables e below (T9.setTop (mkF m 49 #[.val (.int p0), .val (.int p1), .val (.int p2), .val (.int sz), .val (.int kv), .val (.int (own_b (¬ ((p2 &&& (2 : Int32)) = (0 : Int32))))), .unset, .unset] [(.int sz), (.ref b9), (.ref b9)])) _
      refine st11.trans ?_
      show Steps p.tables e below (T11.setTop (mkF m 52 #[.val (.int p0), .val (.int p1), .val (.int p2), .val (.int sz), .val (.int kv), .val (.int (own_b (¬ ((p2 &&& (2 : Int32)) = (0 : Int32))))), .unset, .unset] [(.ref b9)])) _
      refine XS.astore X11.here hx rfl (hb hby at_52) rfl rfl (l' := #[.val (.int p0), .val (.int p1), .val (.int p2), .val (.int sz), .val (.int kv), .val (.int (own_b (¬ ((p2 &&& (2 : Int32)) = (0 : Int32))))), .val (.ref b9), .unset]) rfl ?_
      show Steps p.tables e below (T11.setTop (mkF m 54 #[.val (.int p0), .val (.int p1), .val (.int p2), .val (.int sz), .val (.int kv), .val (.int (own_b (¬ ((p2 &&& (2 : Int32)) = (0 : Int32))))), .val (.ref b9), .unset] [])) _
      refine XS.iload X11.here hx rfl (hb hby at_54) rfl  ?_
      exact kZ)
    by_cases hc19 : (0 : Int32) < kv
    ·  -- yes
      have fa20 : Old Z n0 T11.heap := ((O1.ext E9).keep K11 (allS (P := fun x => n0 ≤ x) gn_b9 all0))
      obtain ⟨cq21, kq21, q21a, q21b, q21c⟩ := isOf hZ rfl f11_0
      obtain ⟨_, _, ⟨T21, L21, k21, n21⟩, -, X21, ⟨Lc21, hQ21, l21, y21, z21⟩, st21⟩ := X11.virtualBack hx (y := (⟨oE, "take", "()V"⟩ : MethodName)) (z := (⟨oE, "take", "()V"⟩ : MethodName)) hown (mvT hZ (ow hw 40 rfl)) (mvT hZ (ow hw 41 rfl)) (notFace_of_selects (args := #[]) (mvT hZ (ow hw 43 rfl))) (mvT hZ (ow hw 43 rfl)) (mvT hZ (ow hw 42 rfl)) (by decide) (backOf (W := 0) (rm7 l Z a0 hw [] b9 b_12 sz (0 : Int64) (0 : Int32) wa_13 kl_14 (0 : Int32) (0 : Int64) T11.heap n0 Z15 f11_0 f11_1 f11_2 f11_3 f11_4 f11_5 f11_6 f11_7 f11_8 hsz (by decide) (by decide) (by first | assumption | decide) S1 fa20 gn_b9 ne16 ne17 u11_0 u11_2 u11_4) hZ (ow hw 44 rfl) (ow hw 7 rfl) (by decide) (by decide)) q21a q21c (g := (mkF m 61 #[.val (.int p0), .val (.int p1), .val (.int p2), .val (.int sz), .val (.int kv), .val (.int (own_b (¬ ((p2 &&& (2 : Int32)) = (0 : Int32))))), .val (.ref b9), .unset] [(.ref b9)])) rfl (by rw [hml]; rfl) (Steps.refl _) (argsL := []) (rest := []) (lenOf pd4 rfl) rfl (by show 2 * 0 + _ ≤ _; exact Nat.le_of_eq rfl) (hb hby at_61) (fun _ _ => ⟨rfl, rfl, (by decide : 3 + 0 ≤ _), (by decide : 8 + 0 ≤ _)⟩)
      dsimp only [Pt.U, Pt.locs, Pt.cells, Pt.slots] at X21 l21 y21 z21 st21 hQ21
      subst l21 y21 z21
      obtain ⟨mn_22, wn_23, vn_24, rfl, N21q, K21, u21_0, f21_0, f21_1, f21_2, f21_3, f21_4, f21_5, f21_6, f21_7, f21_8⟩ := hQ21
      have N21 := Fr.app N11 N21q
      have Z25 : n0 ≤ T21.heap.size := Nat.le_trans Z15 K21.1
      have pre26 : ∀ tZ, Steps p.tables e below (T21.setTop (mkF m 66 #[.val (.int p0), .val (.int p1), .val (.int p2), .val (.int sz), .val (.int kv), .val (.int (own_b (¬ ((p2 &&& (2 : Int32)) = (0 : Int32))))), .val (.ref b9), .unset] [(.int (own_b (¬ ((p2 &&& (2 : Int32)) = (0 : Int32)))))])) tZ → Steps p.tables e below (s₁.setTop (entryFrame m #[(.int p0), (.int p1), (.int p2)] maxLocals)) tZ := fun tZ kZ => pre18 tZ (by
        show Steps p.tables e below (T11.setTop (mkF m 56 #[.val (.int p0), .val (.int p1), .val (.int p2), .val (.int sz), .val (.int kv), .val (.int (own_b (¬ ((p2 &&& (2 : Int32)) = (0 : Int32))))), .val (.ref b9), .unset] [(.int kv)])) _
        refine XS.ifNo X11.here hx rfl (hb hby at_56) rfl ((if0 _ _).trans (tlt hc19).2.2.2) ?_
        show Steps p.tables e below (T11.setTop (mkF m 59 #[.val (.int p0), .val (.int p1), .val (.int p2), .val (.int sz), .val (.int kv), .val (.int (own_b (¬ ((p2 &&& (2 : Int32)) = (0 : Int32))))), .val (.ref b9), .unset] [])) _
        refine XS.aload X11.here hx rfl (hb hby at_59) rfl rfl ?_
        show Steps p.tables e below (T11.setTop (mkF m 61 #[.val (.int p0), .val (.int p1), .val (.int p2), .val (.int sz), .val (.int kv), .val (.int (own_b (¬ ((p2 &&& (2 : Int32)) = (0 : Int32))))), .val (.ref b9), .unset] [(.ref b9)])) _
        refine st21.trans ?_
        show Steps p.tables e below (T21.setTop (mkF m 64 #[.val (.int p0), .val (.int p1), .val (.int p2), .val (.int sz), .val (.int kv), .val (.int (own_b (¬ ((p2 &&& (2 : Int32)) = (0 : Int32))))), .val (.ref b9), .unset] [])) _
        refine XS.iload X21.here hx rfl (hb hby at_64) rfl  ?_
        exact kZ)
      by_cases hc27 : (¬ ((p2 &&& (2 : Int32)) = (0 : Int32)))
      ·  -- yes
        have fa28 : Old Z n0 T21.heap := (fa20.keep K21 (allS (P := fun x => n0 ≤ x) gn_b9 (allS (P := fun x => n0 ≤ x) u11_0 (allS (P := fun x => n0 ≤ x) u11_2 all0))))
        obtain ⟨cq29, kq29, q29a, q29b, q29c⟩ := isOf hZ rfl f21_0
        obtain ⟨_, _, ⟨T29, L29, k29, n29⟩, -, X29, ⟨Lc29, hQ29, l29, y29, z29⟩, st29⟩ := X21.virtualBack hx (y := (⟨oE, "markLast", "()V"⟩ : MethodName)) (z := (⟨oE, "markLast", "()V"⟩ : MethodName)) hown (mvT hZ (ow hw 58 rfl)) (mvT hZ (ow hw 59 rfl)) (notFace_of_selects (args := #[]) (mvT hZ (ow hw 61 rfl))) (mvT hZ (ow hw 61 rfl)) (mvT hZ (ow hw 60 rfl)) (by decide) (backOf (W := 0) (rm10 l Z a0 hw [] b9 b_12 sz ((0 : Int64) + (1 : Int64)) mn_22 wa_13 kl_14 wn_23 vn_24 T21.heap n0 Z25 f21_0 f21_1 f21_2 f21_3 f21_4 f21_5 f21_6 f21_7 f21_8 hsz (by decide) (by decide) (by first | assumption | decide) S1 fa28 gn_b9 ne16 ne17 u11_0 u11_2 u11_4) hZ (ow hw 62 rfl) (ow hw 7 rfl) (by decide) (by decide)) q29a q29c (g := (mkF m 71 #[.val (.int p0), .val (.int p1), .val (.int p2), .val (.int sz), .val (.int kv), .val (.int (own_b (¬ ((p2 &&& (2 : Int32)) = (0 : Int32))))), .val (.ref b9), .unset] [(.ref b9)])) rfl (by rw [hml]; rfl) (Steps.refl _) (argsL := []) (rest := []) (lenOf pd4 rfl) rfl (by show 2 * 0 + _ ≤ _; exact Nat.le_of_eq rfl) (hb hby at_71) (fun _ _ => ⟨rfl, rfl, (by decide : 3 + 0 ≤ _), (by decide : 8 + 0 ≤ _)⟩)
        dsimp only [Pt.U, Pt.locs, Pt.cells, Pt.slots] at X29 l29 y29 z29 st29 hQ29
        subst l29 y29 z29
        obtain ⟨mn_30, wn_31, vn_32, rfl, N29q, K29, u29_0, f29_0, f29_1, f29_2, f29_3, f29_4, f29_5, f29_6, f29_7, f29_8⟩ := hQ29
        have N29 := Fr.app N21 N29q
        have Z33 : n0 ≤ T29.heap.size := Nat.le_trans Z25 K29.1
        have pre34 : ∀ tZ, Steps p.tables e below (T29.setTop (mkF m 77 #[.val (.int p0), .val (.int p1), .val (.int p2), .val (.int sz), .val (.int kv), .val (.int (own_b (¬ ((p2 &&& (2 : Int32)) = (0 : Int32))))), .val (.ref b9), .unset] [(.int (1 : Int32)), (.int kv)])) tZ → Steps p.tables e below (s₁.setTop (entryFrame m #[(.int p0), (.int p1), (.int p2)] maxLocals)) tZ := fun tZ kZ => pre26 tZ (by
          show Steps p.tables e below (T21.setTop (mkF m 66 #[.val (.int p0), .val (.int p1), .val (.int p2), .val (.int sz), .val (.int kv), .val (.int (own_b (¬ ((p2 &&& (2 : Int32)) = (0 : Int32))))), .val (.ref b9), .unset] [(.int (own_b (¬ ((p2 &&& (2 : Int32)) = (0 : Int32)))))])) _
          refine XS.ifNo X21.here hx rfl (hb hby at_66) rfl ((if0 _ _).trans (feq (own_b_nz hc27)).1) ?_
          show Steps p.tables e below (T21.setTop (mkF m 69 #[.val (.int p0), .val (.int p1), .val (.int p2), .val (.int sz), .val (.int kv), .val (.int (own_b (¬ ((p2 &&& (2 : Int32)) = (0 : Int32))))), .val (.ref b9), .unset] [])) _
          refine XS.aload X21.here hx rfl (hb hby at_69) rfl rfl ?_
          show Steps p.tables e below (T21.setTop (mkF m 71 #[.val (.int p0), .val (.int p1), .val (.int p2), .val (.int sz), .val (.int kv), .val (.int (own_b (¬ ((p2 &&& (2 : Int32)) = (0 : Int32))))), .val (.ref b9), .unset] [(.ref b9)])) _
          refine st29.trans ?_
          show Steps p.tables e below (T29.setTop (mkF m 74 #[.val (.int p0), .val (.int p1), .val (.int p2), .val (.int sz), .val (.int kv), .val (.int (own_b (¬ ((p2 &&& (2 : Int32)) = (0 : Int32))))), .val (.ref b9), .unset] [])) _
          refine XS.iload X29.here hx rfl (hb hby at_74) rfl  ?_
          show Steps p.tables e below (T29.setTop (mkF m 76 #[.val (.int p0), .val (.int p1), .val (.int p2), .val (.int sz), .val (.int kv), .val (.int (own_b (¬ ((p2 &&& (2 : Int32)) = (0 : Int32))))), .val (.ref b9), .unset] [(.int kv)])) _
          refine XS.iconst X29.here hx rfl (hb hby at_76) ?_
          exact kZ)
        by_cases hc35 : (1 : Int32) < kv
        ·  -- yes
          have fa36 : Old Z n0 T29.heap := (fa28.keep K29 (allS (P := fun x => n0 ≤ x) gn_b9 (allS (P := fun x => n0 ≤ x) u11_0 (allS (P := fun x => n0 ≤ x) u11_2 all0))))
          obtain ⟨cq37, kq37, q37a, q37b, q37c⟩ := isOf hZ rfl f29_0
          obtain ⟨_, _, ⟨T37, L37, k37, n37⟩, -, X37, ⟨Lc37, hQ37, l37, y37, z37⟩, st37⟩ := X29.virtualBack hx (y := (⟨oE, "take", "()V"⟩ : MethodName)) (z := (⟨oE, "take", "()V"⟩ : MethodName)) hown (mvT hZ (ow hw 40 rfl)) (mvT hZ (ow hw 41 rfl)) (notFace_of_selects (args := #[]) (mvT hZ (ow hw 43 rfl))) (mvT hZ (ow hw 43 rfl)) (mvT hZ (ow hw 42 rfl)) (by decide) (backOf (W := 0) (rm7 l Z a0 hw [] b9 b_12 sz ((0 : Int64) + (1 : Int64)) mn_30 wa_13 kl_14 wn_31 vn_32 T29.heap n0 Z33 f29_0 f29_1 f29_2 f29_3 f29_4 f29_5 f29_6 f29_7 f29_8 hsz (by decide) (by decide) (by first | assumption | decide) S1 fa36 gn_b9 ne16 ne17 u11_0 u11_2 u11_4) hZ (ow hw 44 rfl) (ow hw 7 rfl) (by decide) (by decide)) q37a q37c (g := (mkF m 82 #[.val (.int p0), .val (.int p1), .val (.int p2), .val (.int sz), .val (.int kv), .val (.int (own_b (¬ ((p2 &&& (2 : Int32)) = (0 : Int32))))), .val (.ref b9), .unset] [(.ref b9)])) rfl (by rw [hml]; rfl) (Steps.refl _) (argsL := []) (rest := []) (lenOf pd4 rfl) rfl (by show 2 * 0 + _ ≤ _; exact Nat.le_of_eq rfl) (hb hby at_82) (fun _ _ => ⟨rfl, rfl, (by decide : 3 + 0 ≤ _), (by decide : 8 + 0 ≤ _)⟩)
          dsimp only [Pt.U, Pt.locs, Pt.cells, Pt.slots] at X37 l37 y37 z37 st37 hQ37
          subst l37 y37 z37
          obtain ⟨mn_38, wn_39, vn_40, rfl, N37q, K37, u37_0, f37_0, f37_1, f37_2, f37_3, f37_4, f37_5, f37_6, f37_7, f37_8⟩ := hQ37
          have N37 := Fr.app N29 N37q
          have Z41 : n0 ≤ T37.heap.size := Nat.le_trans Z33 K37.1
          have pre42 : ∀ tZ, Steps p.tables e below (T37.setTop (mkF m 88 #[.val (.int p0), .val (.int p1), .val (.int p2), .val (.int sz), .val (.int kv), .val (.int (own_b (¬ ((p2 &&& (2 : Int32)) = (0 : Int32))))), .val (.ref b9), .unset] [(.int (2 : Int32)), (.int kv)])) tZ → Steps p.tables e below (s₁.setTop (entryFrame m #[(.int p0), (.int p1), (.int p2)] maxLocals)) tZ := fun tZ kZ => pre34 tZ (by
            show Steps p.tables e below (T29.setTop (mkF m 77 #[.val (.int p0), .val (.int p1), .val (.int p2), .val (.int sz), .val (.int kv), .val (.int (own_b (¬ ((p2 &&& (2 : Int32)) = (0 : Int32))))), .val (.ref b9), .unset] [(.int (1 : Int32)), (.int kv)])) _
            refine XS.icmpNo X29.here hx rfl (hb hby at_77) rfl (tlt hc35).2.2.2 ?_
            show Steps p.tables e below (T29.setTop (mkF m 80 #[.val (.int p0), .val (.int p1), .val (.int p2), .val (.int sz), .val (.int kv), .val (.int (own_b (¬ ((p2 &&& (2 : Int32)) = (0 : Int32))))), .val (.ref b9), .unset] [])) _
            refine XS.aload X29.here hx rfl (hb hby at_80) rfl rfl ?_
            show Steps p.tables e below (T29.setTop (mkF m 82 #[.val (.int p0), .val (.int p1), .val (.int p2), .val (.int sz), .val (.int kv), .val (.int (own_b (¬ ((p2 &&& (2 : Int32)) = (0 : Int32))))), .val (.ref b9), .unset] [(.ref b9)])) _
            refine st37.trans ?_
            show Steps p.tables e below (T37.setTop (mkF m 85 #[.val (.int p0), .val (.int p1), .val (.int p2), .val (.int sz), .val (.int kv), .val (.int (own_b (¬ ((p2 &&& (2 : Int32)) = (0 : Int32))))), .val (.ref b9), .unset] [])) _
            refine XS.iload X37.here hx rfl (hb hby at_85) rfl  ?_
            show Steps p.tables e below (T37.setTop (mkF m 87 #[.val (.int p0), .val (.int p1), .val (.int p2), .val (.int sz), .val (.int kv), .val (.int (own_b (¬ ((p2 &&& (2 : Int32)) = (0 : Int32))))), .val (.ref b9), .unset] [(.int kv)])) _
            refine XS.iconst X37.here hx rfl (hb hby at_87) ?_
            exact kZ)
          by_cases hc43 : (2 : Int32) < kv
          ·  -- yes
            have fa44 : Old Z n0 T37.heap := (fa36.keep K37 (allS (P := fun x => n0 ≤ x) gn_b9 (allS (P := fun x => n0 ≤ x) u11_0 (allS (P := fun x => n0 ≤ x) u11_2 all0))))
            obtain ⟨cq45, kq45, q45a, q45b, q45c⟩ := isOf hZ rfl f37_0
            obtain ⟨_, _, ⟨T45, L45, k45, n45⟩, -, X45, ⟨Lc45, hQ45, l45, y45, z45⟩, st45⟩ := X37.virtualBack hx (y := (⟨oE, "take", "()V"⟩ : MethodName)) (z := (⟨oE, "take", "()V"⟩ : MethodName)) hown (mvT hZ (ow hw 40 rfl)) (mvT hZ (ow hw 41 rfl)) (notFace_of_selects (args := #[]) (mvT hZ (ow hw 43 rfl))) (mvT hZ (ow hw 43 rfl)) (mvT hZ (ow hw 42 rfl)) (by decide) (backOf (W := 0) (rm7 l Z a0 hw [] b9 b_12 sz (((0 : Int64) + (1 : Int64)) + (1 : Int64)) mn_38 wa_13 kl_14 wn_39 vn_40 T37.heap n0 Z41 f37_0 f37_1 f37_2 f37_3 f37_4 f37_5 f37_6 f37_7 f37_8 hsz (by decide) (by decide) (by first | assumption | decide) S1 fa44 gn_b9 ne16 ne17 u11_0 u11_2 u11_4) hZ (ow hw 44 rfl) (ow hw 7 rfl) (by decide) (by decide)) q45a q45c (g := (mkF m 93 #[.val (.int p0), .val (.int p1), .val (.int p2), .val (.int sz), .val (.int kv), .val (.int (own_b (¬ ((p2 &&& (2 : Int32)) = (0 : Int32))))), .val (.ref b9), .unset] [(.ref b9)])) rfl (by rw [hml]; rfl) (Steps.refl _) (argsL := []) (rest := []) (lenOf pd4 rfl) rfl (by show 2 * 0 + _ ≤ _; exact Nat.le_of_eq rfl) (hb hby at_93) (fun _ _ => ⟨rfl, rfl, (by decide : 3 + 0 ≤ _), (by decide : 8 + 0 ≤ _)⟩)
            dsimp only [Pt.U, Pt.locs, Pt.cells, Pt.slots] at X45 l45 y45 z45 st45 hQ45
            subst l45 y45 z45
            obtain ⟨mn_46, wn_47, vn_48, rfl, N45q, K45, u45_0, f45_0, f45_1, f45_2, f45_3, f45_4, f45_5, f45_6, f45_7, f45_8⟩ := hQ45
            have N45 := Fr.app N37 N45q
            have Z49 : n0 ≤ T45.heap.size := Nat.le_trans Z41 K45.1
            have pre50 : ∀ tZ, Steps p.tables e below (T45.setTop (mkF m 99 #[.val (.int p0), .val (.int p1), .val (.int p2), .val (.int sz), .val (.int kv), .val (.int (own_b (¬ ((p2 &&& (2 : Int32)) = (0 : Int32))))), .val (.ref b9), .unset] [(.int (3 : Int32)), (.int kv)])) tZ → Steps p.tables e below (s₁.setTop (entryFrame m #[(.int p0), (.int p1), (.int p2)] maxLocals)) tZ := fun tZ kZ => pre42 tZ (by
              show Steps p.tables e below (T37.setTop (mkF m 88 #[.val (.int p0), .val (.int p1), .val (.int p2), .val (.int sz), .val (.int kv), .val (.int (own_b (¬ ((p2 &&& (2 : Int32)) = (0 : Int32))))), .val (.ref b9), .unset] [(.int (2 : Int32)), (.int kv)])) _
              refine XS.icmpNo X37.here hx rfl (hb hby at_88) rfl (tlt hc43).2.2.2 ?_
              show Steps p.tables e below (T37.setTop (mkF m 91 #[.val (.int p0), .val (.int p1), .val (.int p2), .val (.int sz), .val (.int kv), .val (.int (own_b (¬ ((p2 &&& (2 : Int32)) = (0 : Int32))))), .val (.ref b9), .unset] [])) _
              refine XS.aload X37.here hx rfl (hb hby at_91) rfl rfl ?_
              show Steps p.tables e below (T37.setTop (mkF m 93 #[.val (.int p0), .val (.int p1), .val (.int p2), .val (.int sz), .val (.int kv), .val (.int (own_b (¬ ((p2 &&& (2 : Int32)) = (0 : Int32))))), .val (.ref b9), .unset] [(.ref b9)])) _
              refine st45.trans ?_
              show Steps p.tables e below (T45.setTop (mkF m 96 #[.val (.int p0), .val (.int p1), .val (.int p2), .val (.int sz), .val (.int kv), .val (.int (own_b (¬ ((p2 &&& (2 : Int32)) = (0 : Int32))))), .val (.ref b9), .unset] [])) _
              refine XS.iload X45.here hx rfl (hb hby at_96) rfl  ?_
              show Steps p.tables e below (T45.setTop (mkF m 98 #[.val (.int p0), .val (.int p1), .val (.int p2), .val (.int sz), .val (.int kv), .val (.int (own_b (¬ ((p2 &&& (2 : Int32)) = (0 : Int32))))), .val (.ref b9), .unset] [(.int kv)])) _
              refine XS.iconst X45.here hx rfl (hb hby at_98) ?_
              exact kZ)
            by_cases hc51 : (3 : Int32) < kv
            ·  -- yes
              have fa52 : Old Z n0 T45.heap := (fa44.keep K45 (allS (P := fun x => n0 ≤ x) gn_b9 (allS (P := fun x => n0 ≤ x) u11_0 (allS (P := fun x => n0 ≤ x) u11_2 all0))))
              obtain ⟨cq53, kq53, q53a, q53b, q53c⟩ := isOf hZ rfl f45_0
              obtain ⟨_, _, ⟨T53, L53, k53, n53⟩, -, X53, ⟨Lc53, hQ53, l53, y53, z53⟩, st53⟩ := X45.virtualBack hx (y := (⟨oE, "take", "()V"⟩ : MethodName)) (z := (⟨oE, "take", "()V"⟩ : MethodName)) hown (mvT hZ (ow hw 40 rfl)) (mvT hZ (ow hw 41 rfl)) (notFace_of_selects (args := #[]) (mvT hZ (ow hw 43 rfl))) (mvT hZ (ow hw 43 rfl)) (mvT hZ (ow hw 42 rfl)) (by decide) (backOf (W := 0) (rm7 l Z a0 hw [] b9 b_12 sz ((((0 : Int64) + (1 : Int64)) + (1 : Int64)) + (1 : Int64)) mn_46 wa_13 kl_14 wn_47 vn_48 T45.heap n0 Z49 f45_0 f45_1 f45_2 f45_3 f45_4 f45_5 f45_6 f45_7 f45_8 hsz (by decide) (by decide) (by first | assumption | decide) S1 fa52 gn_b9 ne16 ne17 u11_0 u11_2 u11_4) hZ (ow hw 44 rfl) (ow hw 7 rfl) (by decide) (by decide)) q53a q53c (g := (mkF m 104 #[.val (.int p0), .val (.int p1), .val (.int p2), .val (.int sz), .val (.int kv), .val (.int (own_b (¬ ((p2 &&& (2 : Int32)) = (0 : Int32))))), .val (.ref b9), .unset] [(.ref b9)])) rfl (by rw [hml]; rfl) (Steps.refl _) (argsL := []) (rest := []) (lenOf pd4 rfl) rfl (by show 2 * 0 + _ ≤ _; exact Nat.le_of_eq rfl) (hb hby at_104) (fun _ _ => ⟨rfl, rfl, (by decide : 3 + 0 ≤ _), (by decide : 8 + 0 ≤ _)⟩)
              dsimp only [Pt.U, Pt.locs, Pt.cells, Pt.slots] at X53 l53 y53 z53 st53 hQ53
              subst l53 y53 z53
              obtain ⟨mn_54, wn_55, vn_56, rfl, N53q, K53, u53_0, f53_0, f53_1, f53_2, f53_3, f53_4, f53_5, f53_6, f53_7, f53_8⟩ := hQ53
              have N53 := Fr.app N45 N53q
              have Z57 : n0 ≤ T53.heap.size := Nat.le_trans Z49 K53.1
              have pre58 : ∀ tZ, Steps p.tables e below (T53.setTop (mkF m 110 #[.val (.int p0), .val (.int p1), .val (.int p2), .val (.int sz), .val (.int kv), .val (.int (own_b (¬ ((p2 &&& (2 : Int32)) = (0 : Int32))))), .val (.ref b9), .unset] [(.int (4 : Int32)), (.int kv)])) tZ → Steps p.tables e below (s₁.setTop (entryFrame m #[(.int p0), (.int p1), (.int p2)] maxLocals)) tZ := fun tZ kZ => pre50 tZ (by
                show Steps p.tables e below (T45.setTop (mkF m 99 #[.val (.int p0), .val (.int p1), .val (.int p2), .val (.int sz), .val (.int kv), .val (.int (own_b (¬ ((p2 &&& (2 : Int32)) = (0 : Int32))))), .val (.ref b9), .unset] [(.int (3 : Int32)), (.int kv)])) _
                refine XS.icmpNo X45.here hx rfl (hb hby at_99) rfl (tlt hc51).2.2.2 ?_
                show Steps p.tables e below (T45.setTop (mkF m 102 #[.val (.int p0), .val (.int p1), .val (.int p2), .val (.int sz), .val (.int kv), .val (.int (own_b (¬ ((p2 &&& (2 : Int32)) = (0 : Int32))))), .val (.ref b9), .unset] [])) _
                refine XS.aload X45.here hx rfl (hb hby at_102) rfl rfl ?_
                show Steps p.tables e below (T45.setTop (mkF m 104 #[.val (.int p0), .val (.int p1), .val (.int p2), .val (.int sz), .val (.int kv), .val (.int (own_b (¬ ((p2 &&& (2 : Int32)) = (0 : Int32))))), .val (.ref b9), .unset] [(.ref b9)])) _
                refine st53.trans ?_
                show Steps p.tables e below (T53.setTop (mkF m 107 #[.val (.int p0), .val (.int p1), .val (.int p2), .val (.int sz), .val (.int kv), .val (.int (own_b (¬ ((p2 &&& (2 : Int32)) = (0 : Int32))))), .val (.ref b9), .unset] [])) _
                refine XS.iload X53.here hx rfl (hb hby at_107) rfl  ?_
                show Steps p.tables e below (T53.setTop (mkF m 109 #[.val (.int p0), .val (.int p1), .val (.int p2), .val (.int sz), .val (.int kv), .val (.int (own_b (¬ ((p2 &&& (2 : Int32)) = (0 : Int32))))), .val (.ref b9), .unset] [(.int kv)])) _
                refine XS.iconst X53.here hx rfl (hb hby at_109) ?_
                exact kZ)
              by_cases hc59 : (4 : Int32) < kv
              ·  -- yes
                have fa60 : Old Z n0 T53.heap := (fa52.keep K53 (allS (P := fun x => n0 ≤ x) gn_b9 (allS (P := fun x => n0 ≤ x) u11_0 (allS (P := fun x => n0 ≤ x) u11_2 all0))))
                obtain ⟨cq61, kq61, q61a, q61b, q61c⟩ := isOf hZ rfl f53_0
                obtain ⟨_, _, ⟨T61, L61, k61, n61⟩, -, X61, ⟨Lc61, hQ61, l61, y61, z61⟩, st61⟩ := X53.virtualBack hx (y := (⟨oE, "take", "()V"⟩ : MethodName)) (z := (⟨oE, "take", "()V"⟩ : MethodName)) hown (mvT hZ (ow hw 40 rfl)) (mvT hZ (ow hw 41 rfl)) (notFace_of_selects (args := #[]) (mvT hZ (ow hw 43 rfl))) (mvT hZ (ow hw 43 rfl)) (mvT hZ (ow hw 42 rfl)) (by decide) (backOf (W := 0) (rm7 l Z a0 hw [] b9 b_12 sz (((((0 : Int64) + (1 : Int64)) + (1 : Int64)) + (1 : Int64)) + (1 : Int64)) mn_54 wa_13 kl_14 wn_55 vn_56 T53.heap n0 Z57 f53_0 f53_1 f53_2 f53_3 f53_4 f53_5 f53_6 f53_7 f53_8 hsz (by decide) (by decide) (by first | assumption | decide) S1 fa60 gn_b9 ne16 ne17 u11_0 u11_2 u11_4) hZ (ow hw 44 rfl) (ow hw 7 rfl) (by decide) (by decide)) q61a q61c (g := (mkF m 115 #[.val (.int p0), .val (.int p1), .val (.int p2), .val (.int sz), .val (.int kv), .val (.int (own_b (¬ ((p2 &&& (2 : Int32)) = (0 : Int32))))), .val (.ref b9), .unset] [(.ref b9)])) rfl (by rw [hml]; rfl) (Steps.refl _) (argsL := []) (rest := []) (lenOf pd4 rfl) rfl (by show 2 * 0 + _ ≤ _; exact Nat.le_of_eq rfl) (hb hby at_115) (fun _ _ => ⟨rfl, rfl, (by decide : 3 + 0 ≤ _), (by decide : 8 + 0 ≤ _)⟩)
                dsimp only [Pt.U, Pt.locs, Pt.cells, Pt.slots] at X61 l61 y61 z61 st61 hQ61
                subst l61 y61 z61
                obtain ⟨mn_62, wn_63, vn_64, rfl, N61q, K61, u61_0, f61_0, f61_1, f61_2, f61_3, f61_4, f61_5, f61_6, f61_7, f61_8⟩ := hQ61
                have N61 := Fr.app N53 N61q
                have Z65 : n0 ≤ T61.heap.size := Nat.le_trans Z57 K61.1
                have pre66 : ∀ tZ, Steps p.tables e below (T61.setTop (mkF m 121 #[.val (.int p0), .val (.int p1), .val (.int p2), .val (.int sz), .val (.int kv), .val (.int (own_b (¬ ((p2 &&& (2 : Int32)) = (0 : Int32))))), .val (.ref b9), .unset] [(.int (5 : Int32)), (.int kv)])) tZ → Steps p.tables e below (s₁.setTop (entryFrame m #[(.int p0), (.int p1), (.int p2)] maxLocals)) tZ := fun tZ kZ => pre58 tZ (by
                  show Steps p.tables e below (T53.setTop (mkF m 110 #[.val (.int p0), .val (.int p1), .val (.int p2), .val (.int sz), .val (.int kv), .val (.int (own_b (¬ ((p2 &&& (2 : Int32)) = (0 : Int32))))), .val (.ref b9), .unset] [(.int (4 : Int32)), (.int kv)])) _
                  refine XS.icmpNo X53.here hx rfl (hb hby at_110) rfl (tlt hc59).2.2.2 ?_
                  show Steps p.tables e below (T53.setTop (mkF m 113 #[.val (.int p0), .val (.int p1), .val (.int p2), .val (.int sz), .val (.int kv), .val (.int (own_b (¬ ((p2 &&& (2 : Int32)) = (0 : Int32))))), .val (.ref b9), .unset] [])) _
                  refine XS.aload X53.here hx rfl (hb hby at_113) rfl rfl ?_
                  show Steps p.tables e below (T53.setTop (mkF m 115 #[.val (.int p0), .val (.int p1), .val (.int p2), .val (.int sz), .val (.int kv), .val (.int (own_b (¬ ((p2 &&& (2 : Int32)) = (0 : Int32))))), .val (.ref b9), .unset] [(.ref b9)])) _
                  refine st61.trans ?_
                  show Steps p.tables e below (T61.setTop (mkF m 118 #[.val (.int p0), .val (.int p1), .val (.int p2), .val (.int sz), .val (.int kv), .val (.int (own_b (¬ ((p2 &&& (2 : Int32)) = (0 : Int32))))), .val (.ref b9), .unset] [])) _
                  refine XS.iload X61.here hx rfl (hb hby at_118) rfl  ?_
                  show Steps p.tables e below (T61.setTop (mkF m 120 #[.val (.int p0), .val (.int p1), .val (.int p2), .val (.int sz), .val (.int kv), .val (.int (own_b (¬ ((p2 &&& (2 : Int32)) = (0 : Int32))))), .val (.ref b9), .unset] [(.int kv)])) _
                  refine XS.iconst X61.here hx rfl (hb hby at_120) ?_
                  exact kZ)
                by_cases hc67 : (5 : Int32) < kv
                ·  -- yes
                  have fa68 : Old Z n0 T61.heap := (fa60.keep K61 (allS (P := fun x => n0 ≤ x) gn_b9 (allS (P := fun x => n0 ≤ x) u11_0 (allS (P := fun x => n0 ≤ x) u11_2 all0))))
                  obtain ⟨cq69, kq69, q69a, q69b, q69c⟩ := isOf hZ rfl f61_0
                  obtain ⟨_, _, ⟨T69, L69, k69, n69⟩, -, X69, ⟨Lc69, hQ69, l69, y69, z69⟩, st69⟩ := X61.virtualBack hx (y := (⟨oE, "take", "()V"⟩ : MethodName)) (z := (⟨oE, "take", "()V"⟩ : MethodName)) hown (mvT hZ (ow hw 40 rfl)) (mvT hZ (ow hw 41 rfl)) (notFace_of_selects (args := #[]) (mvT hZ (ow hw 43 rfl))) (mvT hZ (ow hw 43 rfl)) (mvT hZ (ow hw 42 rfl)) (by decide) (backOf (W := 0) (rm7 l Z a0 hw [] b9 b_12 sz ((((((0 : Int64) + (1 : Int64)) + (1 : Int64)) + (1 : Int64)) + (1 : Int64)) + (1 : Int64)) mn_62 wa_13 kl_14 wn_63 vn_64 T61.heap n0 Z65 f61_0 f61_1 f61_2 f61_3 f61_4 f61_5 f61_6 f61_7 f61_8 hsz (by decide) (by decide) (by first | assumption | decide) S1 fa68 gn_b9 ne16 ne17 u11_0 u11_2 u11_4) hZ (ow hw 44 rfl) (ow hw 7 rfl) (by decide) (by decide)) q69a q69c (g := (mkF m 126 #[.val (.int p0), .val (.int p1), .val (.int p2), .val (.int sz), .val (.int kv), .val (.int (own_b (¬ ((p2 &&& (2 : Int32)) = (0 : Int32))))), .val (.ref b9), .unset] [(.ref b9)])) rfl (by rw [hml]; rfl) (Steps.refl _) (argsL := []) (rest := []) (lenOf pd4 rfl) rfl (by show 2 * 0 + _ ≤ _; exact Nat.le_of_eq rfl) (hb hby at_126) (fun _ _ => ⟨rfl, rfl, (by decide : 3 + 0 ≤ _), (by decide : 8 + 0 ≤ _)⟩)
                  dsimp only [Pt.U, Pt.locs, Pt.cells, Pt.slots] at X69 l69 y69 z69 st69 hQ69
                  subst l69 y69 z69
                  obtain ⟨mn_70, wn_71, vn_72, rfl, N69q, K69, u69_0, f69_0, f69_1, f69_2, f69_3, f69_4, f69_5, f69_6, f69_7, f69_8⟩ := hQ69
                  have N69 := Fr.app N61 N69q
                  have Z73 : n0 ≤ T69.heap.size := Nat.le_trans Z65 K69.1
                  have pre74 : ∀ tZ, Steps p.tables e below (T69.setTop (mkF m 133 #[.val (.int p0), .val (.int p1), .val (.int p2), .val (.int sz), .val (.int kv), .val (.int (own_b (¬ ((p2 &&& (2 : Int32)) = (0 : Int32))))), .val (.ref b9), .unset] [(.int (6 : Int32)), (.int kv)])) tZ → Steps p.tables e below (s₁.setTop (entryFrame m #[(.int p0), (.int p1), (.int p2)] maxLocals)) tZ := fun tZ kZ => pre66 tZ (by
                    show Steps p.tables e below (T61.setTop (mkF m 121 #[.val (.int p0), .val (.int p1), .val (.int p2), .val (.int sz), .val (.int kv), .val (.int (own_b (¬ ((p2 &&& (2 : Int32)) = (0 : Int32))))), .val (.ref b9), .unset] [(.int (5 : Int32)), (.int kv)])) _
                    refine XS.icmpNo X61.here hx rfl (hb hby at_121) rfl (tlt hc67).2.2.2 ?_
                    show Steps p.tables e below (T61.setTop (mkF m 124 #[.val (.int p0), .val (.int p1), .val (.int p2), .val (.int sz), .val (.int kv), .val (.int (own_b (¬ ((p2 &&& (2 : Int32)) = (0 : Int32))))), .val (.ref b9), .unset] [])) _
                    refine XS.aload X61.here hx rfl (hb hby at_124) rfl rfl ?_
                    show Steps p.tables e below (T61.setTop (mkF m 126 #[.val (.int p0), .val (.int p1), .val (.int p2), .val (.int sz), .val (.int kv), .val (.int (own_b (¬ ((p2 &&& (2 : Int32)) = (0 : Int32))))), .val (.ref b9), .unset] [(.ref b9)])) _
                    refine st69.trans ?_
                    show Steps p.tables e below (T69.setTop (mkF m 129 #[.val (.int p0), .val (.int p1), .val (.int p2), .val (.int sz), .val (.int kv), .val (.int (own_b (¬ ((p2 &&& (2 : Int32)) = (0 : Int32))))), .val (.ref b9), .unset] [])) _
                    refine XS.iload X69.here hx rfl (hb hby at_129) rfl  ?_
                    show Steps p.tables e below (T69.setTop (mkF m 131 #[.val (.int p0), .val (.int p1), .val (.int p2), .val (.int sz), .val (.int kv), .val (.int (own_b (¬ ((p2 &&& (2 : Int32)) = (0 : Int32))))), .val (.ref b9), .unset] [(.int kv)])) _
                    refine XS.bipush X69.here hx rfl (hb hby at_131) ?_
                    exact kZ)
                  by_cases hc75 : (6 : Int32) < kv
                  ·  -- yes
                    have fa76 : Old Z n0 T69.heap := (fa68.keep K69 (allS (P := fun x => n0 ≤ x) gn_b9 (allS (P := fun x => n0 ≤ x) u11_0 (allS (P := fun x => n0 ≤ x) u11_2 all0))))
                    obtain ⟨cq77, kq77, q77a, q77b, q77c⟩ := isOf hZ rfl f69_0
                    obtain ⟨_, _, ⟨T77, L77, k77, n77⟩, -, X77, ⟨Lc77, hQ77, l77, y77, z77⟩, st77⟩ := X69.virtualBack hx (y := (⟨oE, "take", "()V"⟩ : MethodName)) (z := (⟨oE, "take", "()V"⟩ : MethodName)) hown (mvT hZ (ow hw 40 rfl)) (mvT hZ (ow hw 41 rfl)) (notFace_of_selects (args := #[]) (mvT hZ (ow hw 43 rfl))) (mvT hZ (ow hw 43 rfl)) (mvT hZ (ow hw 42 rfl)) (by decide) (backOf (W := 0) (rm7 l Z a0 hw [] b9 b_12 sz (((((((0 : Int64) + (1 : Int64)) + (1 : Int64)) + (1 : Int64)) + (1 : Int64)) + (1 : Int64)) + (1 : Int64)) mn_70 wa_13 kl_14 wn_71 vn_72 T69.heap n0 Z73 f69_0 f69_1 f69_2 f69_3 f69_4 f69_5 f69_6 f69_7 f69_8 hsz (by decide) (by decide) (by first | assumption | decide) S1 fa76 gn_b9 ne16 ne17 u11_0 u11_2 u11_4) hZ (ow hw 44 rfl) (ow hw 7 rfl) (by decide) (by decide)) q77a q77c (g := (mkF m 138 #[.val (.int p0), .val (.int p1), .val (.int p2), .val (.int sz), .val (.int kv), .val (.int (own_b (¬ ((p2 &&& (2 : Int32)) = (0 : Int32))))), .val (.ref b9), .unset] [(.ref b9)])) rfl (by rw [hml]; rfl) (Steps.refl _) (argsL := []) (rest := []) (lenOf pd4 rfl) rfl (by show 2 * 0 + _ ≤ _; exact Nat.le_of_eq rfl) (hb hby at_138) (fun _ _ => ⟨rfl, rfl, (by decide : 3 + 0 ≤ _), (by decide : 8 + 0 ≤ _)⟩)
                    dsimp only [Pt.U, Pt.locs, Pt.cells, Pt.slots] at X77 l77 y77 z77 st77 hQ77
                    subst l77 y77 z77
                    obtain ⟨mn_78, wn_79, vn_80, rfl, N77q, K77, u77_0, f77_0, f77_1, f77_2, f77_3, f77_4, f77_5, f77_6, f77_7, f77_8⟩ := hQ77
                    have N77 := Fr.app N69 N77q
                    have Z81 : n0 ≤ T77.heap.size := Nat.le_trans Z73 K77.1
                    have pre82 : ∀ tZ, Steps p.tables e below (T77.setTop (mkF m 144 #[.val (.int p0), .val (.int p1), .val (.int p2), .val (.int sz), .val (.int kv), .val (.int (own_b (¬ ((p2 &&& (2 : Int32)) = (0 : Int32))))), .val (.ref b9), .unset] [(.int sz), (.int kv)])) tZ → Steps p.tables e below (s₁.setTop (entryFrame m #[(.int p0), (.int p1), (.int p2)] maxLocals)) tZ := fun tZ kZ => pre74 tZ (by
                      show Steps p.tables e below (T69.setTop (mkF m 133 #[.val (.int p0), .val (.int p1), .val (.int p2), .val (.int sz), .val (.int kv), .val (.int (own_b (¬ ((p2 &&& (2 : Int32)) = (0 : Int32))))), .val (.ref b9), .unset] [(.int (6 : Int32)), (.int kv)])) _
                      refine XS.icmpNo X69.here hx rfl (hb hby at_133) rfl (tlt hc75).2.2.2 ?_
                      show Steps p.tables e below (T69.setTop (mkF m 136 #[.val (.int p0), .val (.int p1), .val (.int p2), .val (.int sz), .val (.int kv), .val (.int (own_b (¬ ((p2 &&& (2 : Int32)) = (0 : Int32))))), .val (.ref b9), .unset] [])) _
                      refine XS.aload X69.here hx rfl (hb hby at_136) rfl rfl ?_
                      show Steps p.tables e below (T69.setTop (mkF m 138 #[.val (.int p0), .val (.int p1), .val (.int p2), .val (.int sz), .val (.int kv), .val (.int (own_b (¬ ((p2 &&& (2 : Int32)) = (0 : Int32))))), .val (.ref b9), .unset] [(.ref b9)])) _
                      refine st77.trans ?_
                      show Steps p.tables e below (T77.setTop (mkF m 141 #[.val (.int p0), .val (.int p1), .val (.int p2), .val (.int sz), .val (.int kv), .val (.int (own_b (¬ ((p2 &&& (2 : Int32)) = (0 : Int32))))), .val (.ref b9), .unset] [])) _
                      refine XS.iload X77.here hx rfl (hb hby at_141) rfl  ?_
                      show Steps p.tables e below (T77.setTop (mkF m 143 #[.val (.int p0), .val (.int p1), .val (.int p2), .val (.int sz), .val (.int kv), .val (.int (own_b (¬ ((p2 &&& (2 : Int32)) = (0 : Int32))))), .val (.ref b9), .unset] [(.int kv)])) _
                      refine XS.iloadN X77.here hx rfl (hb hby at_143) rfl  ?_
                      exact kZ)
                    have pre84 : ∀ tZ, Steps p.tables e below (T77.setTop (mkF m 152 #[.val (.int p0), .val (.int p1), .val (.int p2), .val (.int sz), .val (.int kv), .val (.int (own_b (¬ ((p2 &&& (2 : Int32)) = (0 : Int32))))), .val (.ref b9), .unset] [(.int (own_b (¬ (kv < sz))))])) tZ → Steps p.tables e below (s₁.setTop (entryFrame m #[(.int p0), (.int p1), (.int p2)] maxLocals)) tZ := fun tZ kZ => pre82 tZ (by
                      by_cases hc83 : kv < sz
                      ·  -- yes
                        show Steps p.tables e below (T77.setTop (mkF m 144 #[.val (.int p0), .val (.int p1), .val (.int p2), .val (.int sz), .val (.int kv), .val (.int (own_b (¬ ((p2 &&& (2 : Int32)) = (0 : Int32))))), .val (.ref b9), .unset] [(.int sz), (.int kv)])) _
                        refine XS.icmpYes X77.here hx rfl (pc0 := 144) (pc' := 151) rfl (hb hby at_144) rfl (tlt hc83).1 (by decide) (by decide) ?_
                        show Steps p.tables e below (T77.setTop (mkF m 151 #[.val (.int p0), .val (.int p1), .val (.int p2), .val (.int sz), .val (.int kv), .val (.int (own_b (¬ ((p2 &&& (2 : Int32)) = (0 : Int32))))), .val (.ref b9), .unset] [])) _
                        refine XS.iconst X77.here hx rfl (hb hby at_151) ?_
                        have ekZ : (own_b (¬ (kv < sz))) = (0 : Int32) := by first | (simp only [own_b, eq_true hc83, and_true, true_and, and_false, false_and, or_true, true_or, or_false, false_or, not_true_eq_false, not_false_eq_true, if_true, if_false, reduceIte]; done) | (simp [own_b, hc83]; done)
                        rw [ekZ] at kZ
                        exact kZ
                      ·  -- no
                        show Steps p.tables e below (T77.setTop (mkF m 144 #[.val (.int p0), .val (.int p1), .val (.int p2), .val (.int sz), .val (.int kv), .val (.int (own_b (¬ ((p2 &&& (2 : Int32)) = (0 : Int32))))), .val (.ref b9), .unset] [(.int sz), (.int kv)])) _
                        refine XS.icmpNo X77.here hx rfl (hb hby at_144) rfl (flt hc83).1 ?_
                        show Steps p.tables e below (T77.setTop (mkF m 147 #[.val (.int p0), .val (.int p1), .val (.int p2), .val (.int sz), .val (.int kv), .val (.int (own_b (¬ ((p2 &&& (2 : Int32)) = (0 : Int32))))), .val (.ref b9), .unset] [])) _
                        refine XS.iconst X77.here hx rfl (hb hby at_147) ?_
                        show Steps p.tables e below (T77.setTop (mkF m 148 #[.val (.int p0), .val (.int p1), .val (.int p2), .val (.int sz), .val (.int kv), .val (.int (own_b (¬ ((p2 &&& (2 : Int32)) = (0 : Int32))))), .val (.ref b9), .unset] [(.int (1 : Int32))])) _
                        refine XS.goto X77.here hx rfl (pc0 := 148) (pc' := 152) rfl (hb hby at_148) (by decide) (by decide) ?_
                        have ekZ : (own_b (¬ (kv < sz))) = (1 : Int32) := by first | (simp only [own_b, eq_false hc83, and_true, true_and, and_false, false_and, or_true, true_or, or_false, false_or, not_true_eq_false, not_false_eq_true, if_true, if_false, reduceIte]; done) | (simp [own_b, hc83]; done)
                        rw [ekZ] at kZ
                        exact kZ)
                    obtain ⟨cq85, kq85, q85a, q85b, q85c⟩ := isOf hZ rfl f77_0
                    obtain ⟨_, _, ⟨T85, L85, k85, n85⟩, -, X85, ⟨Lc85, hQ85, l85, y85, z85⟩, st85⟩ := X77.virtualBack hx (y := (⟨oE, "full", "()Z"⟩ : MethodName)) (z := (⟨oE, "full", "()Z"⟩ : MethodName)) hown (mvT hZ (ow hw 91 rfl)) (mvT hZ (ow hw 92 rfl)) (notFace_of_selects (args := #[]) (mvT hZ (ow hw 94 rfl))) (mvT hZ (ow hw 94 rfl)) (mvT hZ (ow hw 93 rfl)) (by decide) (backOf (W := 0) (rm16 l Z a0 hw [] b9 sz ((((((((0 : Int64) + (1 : Int64)) + (1 : Int64)) + (1 : Int64)) + (1 : Int64)) + (1 : Int64)) + (1 : Int64)) + (1 : Int64)) T77.heap n0 Z81 f77_2 f77_3) hZ (ow hw 95 rfl) (ow hw 7 rfl) (by decide) (by decide)) q85a q85c (g := (mkF m 156 #[.val (.int p0), .val (.int p1), .val (.int p2), .val (.int sz), .val (.int kv), .val (.int (own_b (¬ ((p2 &&& (2 : Int32)) = (0 : Int32))))), .val (.ref b9), .val (.int (own_b (¬ (kv < sz))))] [(.ref b9)])) rfl (by rw [hml]; rfl) (Steps.refl _) (argsL := []) (rest := []) (lenOf pd8 rfl) rfl (by show 2 * 0 + _ ≤ _; exact Nat.le_of_eq rfl) (hb hby at_156) (fun _ _ => ⟨rfl, rfl, (by decide : 3 + 0 ≤ _), (by decide : 8 + 0 ≤ _)⟩)
                    dsimp only [Pt.U, Pt.locs, Pt.cells, Pt.slots] at X85 l85 y85 z85 st85 hQ85
                    subst l85 y85 z85
                    obtain ⟨rfl, N85q, e85⟩ := hQ85
                    have N85 := Fr.app N77 N85q
                    obtain ⟨fsZ, hrZ, hrun, hended, hW, hsame⟩ := X85.leave (v := some (.int (1 : Int32))) (fun h => by rw [Bd.returns] at h; cases h)
                    refine ⟨_, _, pre84 _ ?_, hrun, hended, _, _, rfl, ?_, ⟨_, rfl⟩, hW, hsame.mono (by decide) (by decide)⟩
                    · show Steps p.tables e below (T77.setTop (mkF m 152 #[.val (.int p0), .val (.int p1), .val (.int p2), .val (.int sz), .val (.int kv), .val (.int (own_b (¬ ((p2 &&& (2 : Int32)) = (0 : Int32))))), .val (.ref b9), .unset] [(.int (own_b (¬ (kv < sz))))])) _
                      refine XS.istore X77.here hx rfl (hb hby at_152) rfl (l' := #[.val (.int p0), .val (.int p1), .val (.int p2), .val (.int sz), .val (.int kv), .val (.int (own_b (¬ ((p2 &&& (2 : Int32)) = (0 : Int32))))), .val (.ref b9), .val (.int (own_b (¬ (kv < sz))))]) rfl ?_
                      show Steps p.tables e below (T77.setTop (mkF m 154 #[.val (.int p0), .val (.int p1), .val (.int p2), .val (.int sz), .val (.int kv), .val (.int (own_b (¬ ((p2 &&& (2 : Int32)) = (0 : Int32))))), .val (.ref b9), .val (.int (own_b (¬ (kv < sz))))] [])) _
                      refine XS.aload X77.here hx rfl (hb hby at_154) rfl rfl ?_
                      show Steps p.tables e below (T77.setTop (mkF m 156 #[.val (.int p0), .val (.int p1), .val (.int p2), .val (.int sz), .val (.int kv), .val (.int (own_b (¬ ((p2 &&& (2 : Int32)) = (0 : Int32))))), .val (.ref b9), .val (.int (own_b (¬ (kv < sz))))] [(.ref b9)])) _
                      refine st85.trans ?_
                      show Steps p.tables e below (T85.setTop (mkF m 159 #[.val (.int p0), .val (.int p1), .val (.int p2), .val (.int sz), .val (.int kv), .val (.int (own_b (¬ ((p2 &&& (2 : Int32)) = (0 : Int32))))), .val (.ref b9), .val (.int (own_b (¬ (kv < sz))))] [(.int (own_b (¬ (((((((((0 : Int64) + (1 : Int64)) + (1 : Int64)) + (1 : Int64)) + (1 : Int64)) + (1 : Int64)) + (1 : Int64)) + (1 : Int64)) < (sz.toInt64)))))])) _
                      refine XS.iload X85.here hx rfl (hb hby at_159) rfl  ?_
                      show Steps p.tables e below (T85.setTop (mkF m 161 #[.val (.int p0), .val (.int p1), .val (.int p2), .val (.int sz), .val (.int kv), .val (.int (own_b (¬ ((p2 &&& (2 : Int32)) = (0 : Int32))))), .val (.ref b9), .val (.int (own_b (¬ (kv < sz))))] [(.int (own_b (¬ (kv < sz)))), (.int (own_b (¬ (((((((((0 : Int64) + (1 : Int64)) + (1 : Int64)) + (1 : Int64)) + (1 : Int64)) + (1 : Int64)) + (1 : Int64)) + (1 : Int64)) < (sz.toInt64)))))])) _
                      refine XS.icmpNo X85.here hx rfl (hb hby at_161) rfl (teq (own_fin 7 hsz (by decide) (own_eqk 7 (hc75) (own_k7 hkv) (by decide) (by decide)))).2 ?_
                      show Steps p.tables e below (T85.setTop (mkF m 164 #[.val (.int p0), .val (.int p1), .val (.int p2), .val (.int sz), .val (.int kv), .val (.int (own_b (¬ ((p2 &&& (2 : Int32)) = (0 : Int32))))), .val (.ref b9), .val (.int (own_b (¬ (kv < sz))))] [])) _
                      refine XS.iconst X85.here hx rfl (hb hby at_164) ?_
                      show Steps p.tables e below (T85.setTop (mkF m 165 #[.val (.int p0), .val (.int p1), .val (.int p2), .val (.int sz), .val (.int kv), .val (.int (own_b (¬ ((p2 &&& (2 : Int32)) = (0 : Int32))))), .val (.ref b9), .val (.int (own_b (¬ (kv < sz))))] [(.int (1 : Int32))])) _
                      refine XS.goto X85.here hx rfl (pc0 := 165) (pc' := 169) rfl (hb hby at_165) (by decide) (by decide) ?_
                      show Steps p.tables e below (T85.setTop (mkF m 169 #[.val (.int p0), .val (.int p1), .val (.int p2), .val (.int sz), .val (.int kv), .val (.int (own_b (¬ ((p2 &&& (2 : Int32)) = (0 : Int32))))), .val (.ref b9), .val (.int (own_b (¬ (kv < sz))))] [(.int (1 : Int32))])) _
                      exact retN X85 hx (t := .boolean) Bd.returns (by simp) (hb hby at_169) hrZ
                    · show Q0 Z p0 p1 p2 h0 n0 _ T85.heap _
                      rw [e85]
                      exact ⟨rfl, N85⟩
                  ·  -- no
                    have pre86 : ∀ tZ, Steps p.tables e below (T69.setTop (mkF m 144 #[.val (.int p0), .val (.int p1), .val (.int p2), .val (.int sz), .val (.int kv), .val (.int (own_b (¬ ((p2 &&& (2 : Int32)) = (0 : Int32))))), .val (.ref b9), .unset] [(.int sz), (.int kv)])) tZ → Steps p.tables e below (s₁.setTop (entryFrame m #[(.int p0), (.int p1), (.int p2)] maxLocals)) tZ := fun tZ kZ => pre74 tZ (by
                      show Steps p.tables e below (T69.setTop (mkF m 133 #[.val (.int p0), .val (.int p1), .val (.int p2), .val (.int sz), .val (.int kv), .val (.int (own_b (¬ ((p2 &&& (2 : Int32)) = (0 : Int32))))), .val (.ref b9), .unset] [(.int (6 : Int32)), (.int kv)])) _
                      refine XS.icmpYes X69.here hx rfl (pc0 := 133) (pc' := 141) rfl (hb hby at_133) rfl (flt hc75).2.2.2 (by decide) (by decide) ?_
                      show Steps p.tables e below (T69.setTop (mkF m 141 #[.val (.int p0), .val (.int p1), .val (.int p2), .val (.int sz), .val (.int kv), .val (.int (own_b (¬ ((p2 &&& (2 : Int32)) = (0 : Int32))))), .val (.ref b9), .unset] [])) _
                      refine XS.iload X69.here hx rfl (hb hby at_141) rfl  ?_
                      show Steps p.tables e below (T69.setTop (mkF m 143 #[.val (.int p0), .val (.int p1), .val (.int p2), .val (.int sz), .val (.int kv), .val (.int (own_b (¬ ((p2 &&& (2 : Int32)) = (0 : Int32))))), .val (.ref b9), .unset] [(.int kv)])) _
                      refine XS.iloadN X69.here hx rfl (hb hby at_143) rfl  ?_
                      exact kZ)
                    have pre88 : ∀ tZ, Steps p.tables e below (T69.setTop (mkF m 152 #[.val (.int p0), .val (.int p1), .val (.int p2), .val (.int sz), .val (.int kv), .val (.int (own_b (¬ ((p2 &&& (2 : Int32)) = (0 : Int32))))), .val (.ref b9), .unset] [(.int (own_b (¬ (kv < sz))))])) tZ → Steps p.tables e below (s₁.setTop (entryFrame m #[(.int p0), (.int p1), (.int p2)] maxLocals)) tZ := fun tZ kZ => pre86 tZ (by
                      by_cases hc87 : kv < sz
                      ·  -- yes
                        show Steps p.tables e below (T69.setTop (mkF m 144 #[.val (.int p0), .val (.int p1), .val (.int p2), .val (.int sz), .val (.int kv), .val (.int (own_b (¬ ((p2 &&& (2 : Int32)) = (0 : Int32))))), .val (.ref b9), .unset] [(.int sz), (.int kv)])) _
                        refine XS.icmpYes X69.here hx rfl (pc0 := 144) (pc' := 151) rfl (hb hby at_144) rfl (tlt hc87).1 (by decide) (by decide) ?_
                        show Steps p.tables e below (T69.setTop (mkF m 151 #[.val (.int p0), .val (.int p1), .val (.int p2), .val (.int sz), .val (.int kv), .val (.int (own_b (¬ ((p2 &&& (2 : Int32)) = (0 : Int32))))), .val (.ref b9), .unset] [])) _
                        refine XS.iconst X69.here hx rfl (hb hby at_151) ?_
                        have ekZ : (own_b (¬ (kv < sz))) = (0 : Int32) := by first | (simp only [own_b, eq_true hc87, and_true, true_and, and_false, false_and, or_true, true_or, or_false, false_or, not_true_eq_false, not_false_eq_true, if_true, if_false, reduceIte]; done) | (simp [own_b, hc87]; done)
                        rw [ekZ] at kZ
                        exact kZ
                      ·  -- no
                        show Steps p.tables e below (T69.setTop (mkF m 144 #[.val (.int p0), .val (.int p1), .val (.int p2), .val (.int sz), .val (.int kv), .val (.int (own_b (¬ ((p2 &&& (2 : Int32)) = (0 : Int32))))), .val (.ref b9), .unset] [(.int sz), (.int kv)])) _
                        refine XS.icmpNo X69.here hx rfl (hb hby at_144) rfl (flt hc87).1 ?_
                        show Steps p.tables e below (T69.setTop (mkF m 147 #[.val (.int p0), .val (.int p1), .val (.int p2), .val (.int sz), .val (.int kv), .val (.int (own_b (¬ ((p2 &&& (2 : Int32)) = (0 : Int32))))), .val (.ref b9), .unset] [])) _
                        refine XS.iconst X69.here hx rfl (hb hby at_147) ?_
                        show Steps p.tables e below (T69.setTop (mkF m 148 #[.val (.int p0), .val (.int p1), .val (.int p2), .val (.int sz), .val (.int kv), .val (.int (own_b (¬ ((p2 &&& (2 : Int32)) = (0 : Int32))))), .val (.ref b9), .unset] [(.int (1 : Int32))])) _
                        refine XS.goto X69.here hx rfl (pc0 := 148) (pc' := 152) rfl (hb hby at_148) (by decide) (by decide) ?_
                        have ekZ : (own_b (¬ (kv < sz))) = (1 : Int32) := by first | (simp only [own_b, eq_false hc87, and_true, true_and, and_false, false_and, or_true, true_or, or_false, false_or, not_true_eq_false, not_false_eq_true, if_true, if_false, reduceIte]; done) | (simp [own_b, hc87]; done)
                        rw [ekZ] at kZ
                        exact kZ)
                    obtain ⟨cq89, kq89, q89a, q89b, q89c⟩ := isOf hZ rfl f69_0
                    obtain ⟨_, _, ⟨T89, L89, k89, n89⟩, -, X89, ⟨Lc89, hQ89, l89, y89, z89⟩, st89⟩ := X69.virtualBack hx (y := (⟨oE, "full", "()Z"⟩ : MethodName)) (z := (⟨oE, "full", "()Z"⟩ : MethodName)) hown (mvT hZ (ow hw 91 rfl)) (mvT hZ (ow hw 92 rfl)) (notFace_of_selects (args := #[]) (mvT hZ (ow hw 94 rfl))) (mvT hZ (ow hw 94 rfl)) (mvT hZ (ow hw 93 rfl)) (by decide) (backOf (W := 0) (rm16 l Z a0 hw [] b9 sz (((((((0 : Int64) + (1 : Int64)) + (1 : Int64)) + (1 : Int64)) + (1 : Int64)) + (1 : Int64)) + (1 : Int64)) T69.heap n0 Z73 f69_2 f69_3) hZ (ow hw 95 rfl) (ow hw 7 rfl) (by decide) (by decide)) q89a q89c (g := (mkF m 156 #[.val (.int p0), .val (.int p1), .val (.int p2), .val (.int sz), .val (.int kv), .val (.int (own_b (¬ ((p2 &&& (2 : Int32)) = (0 : Int32))))), .val (.ref b9), .val (.int (own_b (¬ (kv < sz))))] [(.ref b9)])) rfl (by rw [hml]; rfl) (Steps.refl _) (argsL := []) (rest := []) (lenOf pd8 rfl) rfl (by show 2 * 0 + _ ≤ _; exact Nat.le_of_eq rfl) (hb hby at_156) (fun _ _ => ⟨rfl, rfl, (by decide : 3 + 0 ≤ _), (by decide : 8 + 0 ≤ _)⟩)
                    dsimp only [Pt.U, Pt.locs, Pt.cells, Pt.slots] at X89 l89 y89 z89 st89 hQ89
                    subst l89 y89 z89
                    obtain ⟨rfl, N89q, e89⟩ := hQ89
                    have N89 := Fr.app N69 N89q
                    obtain ⟨fsZ, hrZ, hrun, hended, hW, hsame⟩ := X89.leave (v := some (.int (1 : Int32))) (fun h => by rw [Bd.returns] at h; cases h)
                    refine ⟨_, _, pre88 _ ?_, hrun, hended, _, _, rfl, ?_, ⟨_, rfl⟩, hW, hsame.mono (by decide) (by decide)⟩
                    · show Steps p.tables e below (T69.setTop (mkF m 152 #[.val (.int p0), .val (.int p1), .val (.int p2), .val (.int sz), .val (.int kv), .val (.int (own_b (¬ ((p2 &&& (2 : Int32)) = (0 : Int32))))), .val (.ref b9), .unset] [(.int (own_b (¬ (kv < sz))))])) _
                      refine XS.istore X69.here hx rfl (hb hby at_152) rfl (l' := #[.val (.int p0), .val (.int p1), .val (.int p2), .val (.int sz), .val (.int kv), .val (.int (own_b (¬ ((p2 &&& (2 : Int32)) = (0 : Int32))))), .val (.ref b9), .val (.int (own_b (¬ (kv < sz))))]) rfl ?_
                      show Steps p.tables e below (T69.setTop (mkF m 154 #[.val (.int p0), .val (.int p1), .val (.int p2), .val (.int sz), .val (.int kv), .val (.int (own_b (¬ ((p2 &&& (2 : Int32)) = (0 : Int32))))), .val (.ref b9), .val (.int (own_b (¬ (kv < sz))))] [])) _
                      refine XS.aload X69.here hx rfl (hb hby at_154) rfl rfl ?_
                      show Steps p.tables e below (T69.setTop (mkF m 156 #[.val (.int p0), .val (.int p1), .val (.int p2), .val (.int sz), .val (.int kv), .val (.int (own_b (¬ ((p2 &&& (2 : Int32)) = (0 : Int32))))), .val (.ref b9), .val (.int (own_b (¬ (kv < sz))))] [(.ref b9)])) _
                      refine st89.trans ?_
                      show Steps p.tables e below (T89.setTop (mkF m 159 #[.val (.int p0), .val (.int p1), .val (.int p2), .val (.int sz), .val (.int kv), .val (.int (own_b (¬ ((p2 &&& (2 : Int32)) = (0 : Int32))))), .val (.ref b9), .val (.int (own_b (¬ (kv < sz))))] [(.int (own_b (¬ ((((((((0 : Int64) + (1 : Int64)) + (1 : Int64)) + (1 : Int64)) + (1 : Int64)) + (1 : Int64)) + (1 : Int64)) < (sz.toInt64)))))])) _
                      refine XS.iload X89.here hx rfl (hb hby at_159) rfl  ?_
                      show Steps p.tables e below (T89.setTop (mkF m 161 #[.val (.int p0), .val (.int p1), .val (.int p2), .val (.int sz), .val (.int kv), .val (.int (own_b (¬ ((p2 &&& (2 : Int32)) = (0 : Int32))))), .val (.ref b9), .val (.int (own_b (¬ (kv < sz))))] [(.int (own_b (¬ (kv < sz)))), (.int (own_b (¬ ((((((((0 : Int64) + (1 : Int64)) + (1 : Int64)) + (1 : Int64)) + (1 : Int64)) + (1 : Int64)) + (1 : Int64)) < (sz.toInt64)))))])) _
                      refine XS.icmpNo X89.here hx rfl (hb hby at_161) rfl (teq (own_fin 6 hsz (by decide) (own_eqk 6 (hc67) hc75 (by decide) (by decide)))).2 ?_
                      show Steps p.tables e below (T89.setTop (mkF m 164 #[.val (.int p0), .val (.int p1), .val (.int p2), .val (.int sz), .val (.int kv), .val (.int (own_b (¬ ((p2 &&& (2 : Int32)) = (0 : Int32))))), .val (.ref b9), .val (.int (own_b (¬ (kv < sz))))] [])) _
                      refine XS.iconst X89.here hx rfl (hb hby at_164) ?_
                      show Steps p.tables e below (T89.setTop (mkF m 165 #[.val (.int p0), .val (.int p1), .val (.int p2), .val (.int sz), .val (.int kv), .val (.int (own_b (¬ ((p2 &&& (2 : Int32)) = (0 : Int32))))), .val (.ref b9), .val (.int (own_b (¬ (kv < sz))))] [(.int (1 : Int32))])) _
                      refine XS.goto X89.here hx rfl (pc0 := 165) (pc' := 169) rfl (hb hby at_165) (by decide) (by decide) ?_
                      show Steps p.tables e below (T89.setTop (mkF m 169 #[.val (.int p0), .val (.int p1), .val (.int p2), .val (.int sz), .val (.int kv), .val (.int (own_b (¬ ((p2 &&& (2 : Int32)) = (0 : Int32))))), .val (.ref b9), .val (.int (own_b (¬ (kv < sz))))] [(.int (1 : Int32))])) _
                      exact retN X89 hx (t := .boolean) Bd.returns (by simp) (hb hby at_169) hrZ
                    · show Q0 Z p0 p1 p2 h0 n0 _ T89.heap _
                      rw [e89]
                      exact ⟨rfl, N89⟩
                ·  -- no
                  have pre90 : ∀ tZ, Steps p.tables e below (T61.setTop (mkF m 144 #[.val (.int p0), .val (.int p1), .val (.int p2), .val (.int sz), .val (.int kv), .val (.int (own_b (¬ ((p2 &&& (2 : Int32)) = (0 : Int32))))), .val (.ref b9), .unset] [(.int sz), (.int kv)])) tZ → Steps p.tables e below (s₁.setTop (entryFrame m #[(.int p0), (.int p1), (.int p2)] maxLocals)) tZ := fun tZ kZ => pre66 tZ (by
                    show Steps p.tables e below (T61.setTop (mkF m 121 #[.val (.int p0), .val (.int p1), .val (.int p2), .val (.int sz), .val (.int kv), .val (.int (own_b (¬ ((p2 &&& (2 : Int32)) = (0 : Int32))))), .val (.ref b9), .unset] [(.int (5 : Int32)), (.int kv)])) _
                    refine XS.icmpYes X61.here hx rfl (pc0 := 121) (pc' := 129) rfl (hb hby at_121) rfl (flt hc67).2.2.2 (by decide) (by decide) ?_
                    show Steps p.tables e below (T61.setTop (mkF m 129 #[.val (.int p0), .val (.int p1), .val (.int p2), .val (.int sz), .val (.int kv), .val (.int (own_b (¬ ((p2 &&& (2 : Int32)) = (0 : Int32))))), .val (.ref b9), .unset] [])) _
                    refine XS.iload X61.here hx rfl (hb hby at_129) rfl  ?_
                    show Steps p.tables e below (T61.setTop (mkF m 131 #[.val (.int p0), .val (.int p1), .val (.int p2), .val (.int sz), .val (.int kv), .val (.int (own_b (¬ ((p2 &&& (2 : Int32)) = (0 : Int32))))), .val (.ref b9), .unset] [(.int kv)])) _
                    refine XS.bipush X61.here hx rfl (hb hby at_131) ?_
                    show Steps p.tables e below (T61.setTop (mkF m 133 #[.val (.int p0), .val (.int p1), .val (.int p2), .val (.int sz), .val (.int kv), .val (.int (own_b (¬ ((p2 &&& (2 : Int32)) = (0 : Int32))))), .val (.ref b9), .unset] [(.int (6 : Int32)), (.int kv)])) _
                    refine XS.icmpYes X61.here hx rfl (pc0 := 133) (pc' := 141) rfl (hb hby at_133) rfl (flt (own_no hc67 (by decide))).2.2.2 (by decide) (by decide) ?_
                    show Steps p.tables e below (T61.setTop (mkF m 141 #[.val (.int p0), .val (.int p1), .val (.int p2), .val (.int sz), .val (.int kv), .val (.int (own_b (¬ ((p2 &&& (2 : Int32)) = (0 : Int32))))), .val (.ref b9), .unset] [])) _
                    refine XS.iload X61.here hx rfl (hb hby at_141) rfl  ?_
                    show Steps p.tables e below (T61.setTop (mkF m 143 #[.val (.int p0), .val (.int p1), .val (.int p2), .val (.int sz), .val (.int kv), .val (.int (own_b (¬ ((p2 &&& (2 : Int32)) = (0 : Int32))))), .val (.ref b9), .unset] [(.int kv)])) _
                    refine XS.iloadN X61.here hx rfl (hb hby at_143) rfl  ?_
                    exact kZ)
                  have pre92 : ∀ tZ, Steps p.tables e below (T61.setTop (mkF m 152 #[.val (.int p0), .val (.int p1), .val (.int p2), .val (.int sz), .val (.int kv), .val (.int (own_b (¬ ((p2 &&& (2 : Int32)) = (0 : Int32))))), .val (.ref b9), .unset] [(.int (own_b (¬ (kv < sz))))])) tZ → Steps p.tables e below (s₁.setTop (entryFrame m #[(.int p0), (.int p1), (.int p2)] maxLocals)) tZ := fun tZ kZ => pre90 tZ (by
                    by_cases hc91 : kv < sz
                    ·  -- yes
                      show Steps p.tables e below (T61.setTop (mkF m 144 #[.val (.int p0), .val (.int p1), .val (.int p2), .val (.int sz), .val (.int kv), .val (.int (own_b (¬ ((p2 &&& (2 : Int32)) = (0 : Int32))))), .val (.ref b9), .unset] [(.int sz), (.int kv)])) _
                      refine XS.icmpYes X61.here hx rfl (pc0 := 144) (pc' := 151) rfl (hb hby at_144) rfl (tlt hc91).1 (by decide) (by decide) ?_
                      show Steps p.tables e below (T61.setTop (mkF m 151 #[.val (.int p0), .val (.int p1), .val (.int p2), .val (.int sz), .val (.int kv), .val (.int (own_b (¬ ((p2 &&& (2 : Int32)) = (0 : Int32))))), .val (.ref b9), .unset] [])) _
                      refine XS.iconst X61.here hx rfl (hb hby at_151) ?_
                      have ekZ : (own_b (¬ (kv < sz))) = (0 : Int32) := by first | (simp only [own_b, eq_true hc91, and_true, true_and, and_false, false_and, or_true, true_or, or_false, false_or, not_true_eq_false, not_false_eq_true, if_true, if_false, reduceIte]; done) | (simp [own_b, hc91]; done)
                      rw [ekZ] at kZ
                      exact kZ
                    ·  -- no
                      show Steps p.tables e below (T61.setTop (mkF m 144 #[.val (.int p0), .val (.int p1), .val (.int p2), .val (.int sz), .val (.int kv), .val (.int (own_b (¬ ((p2 &&& (2 : Int32)) = (0 : Int32))))), .val (.ref b9), .unset] [(.int sz), (.int kv)])) _
                      refine XS.icmpNo X61.here hx rfl (hb hby at_144) rfl (flt hc91).1 ?_
                      show Steps p.tables e below (T61.setTop (mkF m 147 #[.val (.int p0), .val (.int p1), .val (.int p2), .val (.int sz), .val (.int kv), .val (.int (own_b (¬ ((p2 &&& (2 : Int32)) = (0 : Int32))))), .val (.ref b9), .unset] [])) _
                      refine XS.iconst X61.here hx rfl (hb hby at_147) ?_
                      show Steps p.tables e below (T61.setTop (mkF m 148 #[.val (.int p0), .val (.int p1), .val (.int p2), .val (.int sz), .val (.int kv), .val (.int (own_b (¬ ((p2 &&& (2 : Int32)) = (0 : Int32))))), .val (.ref b9), .unset] [(.int (1 : Int32))])) _
                      refine XS.goto X61.here hx rfl (pc0 := 148) (pc' := 152) rfl (hb hby at_148) (by decide) (by decide) ?_
                      have ekZ : (own_b (¬ (kv < sz))) = (1 : Int32) := by first | (simp only [own_b, eq_false hc91, and_true, true_and, and_false, false_and, or_true, true_or, or_false, false_or, not_true_eq_false, not_false_eq_true, if_true, if_false, reduceIte]; done) | (simp [own_b, hc91]; done)
                      rw [ekZ] at kZ
                      exact kZ)
                  obtain ⟨cq93, kq93, q93a, q93b, q93c⟩ := isOf hZ rfl f61_0
                  obtain ⟨_, _, ⟨T93, L93, k93, n93⟩, -, X93, ⟨Lc93, hQ93, l93, y93, z93⟩, st93⟩ := X61.virtualBack hx (y := (⟨oE, "full", "()Z"⟩ : MethodName)) (z := (⟨oE, "full", "()Z"⟩ : MethodName)) hown (mvT hZ (ow hw 91 rfl)) (mvT hZ (ow hw 92 rfl)) (notFace_of_selects (args := #[]) (mvT hZ (ow hw 94 rfl))) (mvT hZ (ow hw 94 rfl)) (mvT hZ (ow hw 93 rfl)) (by decide) (backOf (W := 0) (rm16 l Z a0 hw [] b9 sz ((((((0 : Int64) + (1 : Int64)) + (1 : Int64)) + (1 : Int64)) + (1 : Int64)) + (1 : Int64)) T61.heap n0 Z65 f61_2 f61_3) hZ (ow hw 95 rfl) (ow hw 7 rfl) (by decide) (by decide)) q93a q93c (g := (mkF m 156 #[.val (.int p0), .val (.int p1), .val (.int p2), .val (.int sz), .val (.int kv), .val (.int (own_b (¬ ((p2 &&& (2 : Int32)) = (0 : Int32))))), .val (.ref b9), .val (.int (own_b (¬ (kv < sz))))] [(.ref b9)])) rfl (by rw [hml]; rfl) (Steps.refl _) (argsL := []) (rest := []) (lenOf pd8 rfl) rfl (by show 2 * 0 + _ ≤ _; exact Nat.le_of_eq rfl) (hb hby at_156) (fun _ _ => ⟨rfl, rfl, (by decide : 3 + 0 ≤ _), (by decide : 8 + 0 ≤ _)⟩)
                  dsimp only [Pt.U, Pt.locs, Pt.cells, Pt.slots] at X93 l93 y93 z93 st93 hQ93
                  subst l93 y93 z93
                  obtain ⟨rfl, N93q, e93⟩ := hQ93
                  have N93 := Fr.app N61 N93q
                  obtain ⟨fsZ, hrZ, hrun, hended, hW, hsame⟩ := X93.leave (v := some (.int (1 : Int32))) (fun h => by rw [Bd.returns] at h; cases h)
                  refine ⟨_, _, pre92 _ ?_, hrun, hended, _, _, rfl, ?_, ⟨_, rfl⟩, hW, hsame.mono (by decide) (by decide)⟩
                  · show Steps p.tables e below (T61.setTop (mkF m 152 #[.val (.int p0), .val (.int p1), .val (.int p2), .val (.int sz), .val (.int kv), .val (.int (own_b (¬ ((p2 &&& (2 : Int32)) = (0 : Int32))))), .val (.ref b9), .unset] [(.int (own_b (¬ (kv < sz))))])) _
                    refine XS.istore X61.here hx rfl (hb hby at_152) rfl (l' := #[.val (.int p0), .val (.int p1), .val (.int p2), .val (.int sz), .val (.int kv), .val (.int (own_b (¬ ((p2 &&& (2 : Int32)) = (0 : Int32))))), .val (.ref b9), .val (.int (own_b (¬ (kv < sz))))]) rfl ?_
                    show Steps p.tables e below (T61.setTop (mkF m 154 #[.val (.int p0), .val (.int p1), .val (.int p2), .val (.int sz), .val (.int kv), .val (.int (own_b (¬ ((p2 &&& (2 : Int32)) = (0 : Int32))))), .val (.ref b9), .val (.int (own_b (¬ (kv < sz))))] [])) _
                    refine XS.aload X61.here hx rfl (hb hby at_154) rfl rfl ?_
                    show Steps p.tables e below (T61.setTop (mkF m 156 #[.val (.int p0), .val (.int p1), .val (.int p2), .val (.int sz), .val (.int kv), .val (.int (own_b (¬ ((p2 &&& (2 : Int32)) = (0 : Int32))))), .val (.ref b9), .val (.int (own_b (¬ (kv < sz))))] [(.ref b9)])) _
                    refine st93.trans ?_
                    show Steps p.tables e below (T93.setTop (mkF m 159 #[.val (.int p0), .val (.int p1), .val (.int p2), .val (.int sz), .val (.int kv), .val (.int (own_b (¬ ((p2 &&& (2 : Int32)) = (0 : Int32))))), .val (.ref b9), .val (.int (own_b (¬ (kv < sz))))] [(.int (own_b (¬ (((((((0 : Int64) + (1 : Int64)) + (1 : Int64)) + (1 : Int64)) + (1 : Int64)) + (1 : Int64)) < (sz.toInt64)))))])) _
                    refine XS.iload X93.here hx rfl (hb hby at_159) rfl  ?_
                    show Steps p.tables e below (T93.setTop (mkF m 161 #[.val (.int p0), .val (.int p1), .val (.int p2), .val (.int sz), .val (.int kv), .val (.int (own_b (¬ ((p2 &&& (2 : Int32)) = (0 : Int32))))), .val (.ref b9), .val (.int (own_b (¬ (kv < sz))))] [(.int (own_b (¬ (kv < sz)))), (.int (own_b (¬ (((((((0 : Int64) + (1 : Int64)) + (1 : Int64)) + (1 : Int64)) + (1 : Int64)) + (1 : Int64)) < (sz.toInt64)))))])) _
                    refine XS.icmpNo X93.here hx rfl (hb hby at_161) rfl (teq (own_fin 5 hsz (by decide) (own_eqk 5 (hc59) hc67 (by decide) (by decide)))).2 ?_
                    show Steps p.tables e below (T93.setTop (mkF m 164 #[.val (.int p0), .val (.int p1), .val (.int p2), .val (.int sz), .val (.int kv), .val (.int (own_b (¬ ((p2 &&& (2 : Int32)) = (0 : Int32))))), .val (.ref b9), .val (.int (own_b (¬ (kv < sz))))] [])) _
                    refine XS.iconst X93.here hx rfl (hb hby at_164) ?_
                    show Steps p.tables e below (T93.setTop (mkF m 165 #[.val (.int p0), .val (.int p1), .val (.int p2), .val (.int sz), .val (.int kv), .val (.int (own_b (¬ ((p2 &&& (2 : Int32)) = (0 : Int32))))), .val (.ref b9), .val (.int (own_b (¬ (kv < sz))))] [(.int (1 : Int32))])) _
                    refine XS.goto X93.here hx rfl (pc0 := 165) (pc' := 169) rfl (hb hby at_165) (by decide) (by decide) ?_
                    show Steps p.tables e below (T93.setTop (mkF m 169 #[.val (.int p0), .val (.int p1), .val (.int p2), .val (.int sz), .val (.int kv), .val (.int (own_b (¬ ((p2 &&& (2 : Int32)) = (0 : Int32))))), .val (.ref b9), .val (.int (own_b (¬ (kv < sz))))] [(.int (1 : Int32))])) _
                    exact retN X93 hx (t := .boolean) Bd.returns (by simp) (hb hby at_169) hrZ
                  · show Q0 Z p0 p1 p2 h0 n0 _ T93.heap _
                    rw [e93]
                    exact ⟨rfl, N93⟩
              ·  -- no
                have pre94 : ∀ tZ, Steps p.tables e below (T53.setTop (mkF m 144 #[.val (.int p0), .val (.int p1), .val (.int p2), .val (.int sz), .val (.int kv), .val (.int (own_b (¬ ((p2 &&& (2 : Int32)) = (0 : Int32))))), .val (.ref b9), .unset] [(.int sz), (.int kv)])) tZ → Steps p.tables e below (s₁.setTop (entryFrame m #[(.int p0), (.int p1), (.int p2)] maxLocals)) tZ := fun tZ kZ => pre58 tZ (by
                  show Steps p.tables e below (T53.setTop (mkF m 110 #[.val (.int p0), .val (.int p1), .val (.int p2), .val (.int sz), .val (.int kv), .val (.int (own_b (¬ ((p2 &&& (2 : Int32)) = (0 : Int32))))), .val (.ref b9), .unset] [(.int (4 : Int32)), (.int kv)])) _
                  refine XS.icmpYes X53.here hx rfl (pc0 := 110) (pc' := 118) rfl (hb hby at_110) rfl (flt hc59).2.2.2 (by decide) (by decide) ?_
                  show Steps p.tables e below (T53.setTop (mkF m 118 #[.val (.int p0), .val (.int p1), .val (.int p2), .val (.int sz), .val (.int kv), .val (.int (own_b (¬ ((p2 &&& (2 : Int32)) = (0 : Int32))))), .val (.ref b9), .unset] [])) _
                  refine XS.iload X53.here hx rfl (hb hby at_118) rfl  ?_
                  show Steps p.tables e below (T53.setTop (mkF m 120 #[.val (.int p0), .val (.int p1), .val (.int p2), .val (.int sz), .val (.int kv), .val (.int (own_b (¬ ((p2 &&& (2 : Int32)) = (0 : Int32))))), .val (.ref b9), .unset] [(.int kv)])) _
                  refine XS.iconst X53.here hx rfl (hb hby at_120) ?_
                  show Steps p.tables e below (T53.setTop (mkF m 121 #[.val (.int p0), .val (.int p1), .val (.int p2), .val (.int sz), .val (.int kv), .val (.int (own_b (¬ ((p2 &&& (2 : Int32)) = (0 : Int32))))), .val (.ref b9), .unset] [(.int (5 : Int32)), (.int kv)])) _
                  refine XS.icmpYes X53.here hx rfl (pc0 := 121) (pc' := 129) rfl (hb hby at_121) rfl (flt (own_no hc59 (by decide))).2.2.2 (by decide) (by decide) ?_
                  show Steps p.tables e below (T53.setTop (mkF m 129 #[.val (.int p0), .val (.int p1), .val (.int p2), .val (.int sz), .val (.int kv), .val (.int (own_b (¬ ((p2 &&& (2 : Int32)) = (0 : Int32))))), .val (.ref b9), .unset] [])) _
                  refine XS.iload X53.here hx rfl (hb hby at_129) rfl  ?_
                  show Steps p.tables e below (T53.setTop (mkF m 131 #[.val (.int p0), .val (.int p1), .val (.int p2), .val (.int sz), .val (.int kv), .val (.int (own_b (¬ ((p2 &&& (2 : Int32)) = (0 : Int32))))), .val (.ref b9), .unset] [(.int kv)])) _
                  refine XS.bipush X53.here hx rfl (hb hby at_131) ?_
                  show Steps p.tables e below (T53.setTop (mkF m 133 #[.val (.int p0), .val (.int p1), .val (.int p2), .val (.int sz), .val (.int kv), .val (.int (own_b (¬ ((p2 &&& (2 : Int32)) = (0 : Int32))))), .val (.ref b9), .unset] [(.int (6 : Int32)), (.int kv)])) _
                  refine XS.icmpYes X53.here hx rfl (pc0 := 133) (pc' := 141) rfl (hb hby at_133) rfl (flt (own_no hc59 (by decide))).2.2.2 (by decide) (by decide) ?_
                  show Steps p.tables e below (T53.setTop (mkF m 141 #[.val (.int p0), .val (.int p1), .val (.int p2), .val (.int sz), .val (.int kv), .val (.int (own_b (¬ ((p2 &&& (2 : Int32)) = (0 : Int32))))), .val (.ref b9), .unset] [])) _
                  refine XS.iload X53.here hx rfl (hb hby at_141) rfl  ?_
                  show Steps p.tables e below (T53.setTop (mkF m 143 #[.val (.int p0), .val (.int p1), .val (.int p2), .val (.int sz), .val (.int kv), .val (.int (own_b (¬ ((p2 &&& (2 : Int32)) = (0 : Int32))))), .val (.ref b9), .unset] [(.int kv)])) _
                  refine XS.iloadN X53.here hx rfl (hb hby at_143) rfl  ?_
                  exact kZ)
                have pre96 : ∀ tZ, Steps p.tables e below (T53.setTop (mkF m 152 #[.val (.int p0), .val (.int p1), .val (.int p2), .val (.int sz), .val (.int kv), .val (.int (own_b (¬ ((p2 &&& (2 : Int32)) = (0 : Int32))))), .val (.ref b9), .unset] [(.int (own_b (¬ (kv < sz))))])) tZ → Steps p.tables e below (s₁.setTop (entryFrame m #[(.int p0), (.int p1), (.int p2)] maxLocals)) tZ := fun tZ kZ => pre94 tZ (by
                  by_cases hc95 : kv < sz
                  ·  -- yes
                    show Steps p.tables e below (T53.setTop (mkF m 144 #[.val (.int p0), .val (.int p1), .val (.int p2), .val (.int sz), .val (.int kv), .val (.int (own_b (¬ ((p2 &&& (2 : Int32)) = (0 : Int32))))), .val (.ref b9), .unset] [(.int sz), (.int kv)])) _
                    refine XS.icmpYes X53.here hx rfl (pc0 := 144) (pc' := 151) rfl (hb hby at_144) rfl (tlt hc95).1 (by decide) (by decide) ?_
                    show Steps p.tables e below (T53.setTop (mkF m 151 #[.val (.int p0), .val (.int p1), .val (.int p2), .val (.int sz), .val (.int kv), .val (.int (own_b (¬ ((p2 &&& (2 : Int32)) = (0 : Int32))))), .val (.ref b9), .unset] [])) _
                    refine XS.iconst X53.here hx rfl (hb hby at_151) ?_
                    have ekZ : (own_b (¬ (kv < sz))) = (0 : Int32) := by first | (simp only [own_b, eq_true hc95, and_true, true_and, and_false, false_and, or_true, true_or, or_false, false_or, not_true_eq_false, not_false_eq_true, if_true, if_false, reduceIte]; done) | (simp [own_b, hc95]; done)
                    rw [ekZ] at kZ
                    exact kZ
                  ·  -- no
                    show Steps p.tables e below (T53.setTop (mkF m 144 #[.val (.int p0), .val (.int p1), .val (.int p2), .val (.int sz), .val (.int kv), .val (.int (own_b (¬ ((p2 &&& (2 : Int32)) = (0 : Int32))))), .val (.ref b9), .unset] [(.int sz), (.int kv)])) _
                    refine XS.icmpNo X53.here hx rfl (hb hby at_144) rfl (flt hc95).1 ?_
                    show Steps p.tables e below (T53.setTop (mkF m 147 #[.val (.int p0), .val (.int p1), .val (.int p2), .val (.int sz), .val (.int kv), .val (.int (own_b (¬ ((p2 &&& (2 : Int32)) = (0 : Int32))))), .val (.ref b9), .unset] [])) _
                    refine XS.iconst X53.here hx rfl (hb hby at_147) ?_
                    show Steps p.tables e below (T53.setTop (mkF m 148 #[.val (.int p0), .val (.int p1), .val (.int p2), .val (.int sz), .val (.int kv), .val (.int (own_b (¬ ((p2 &&& (2 : Int32)) = (0 : Int32))))), .val (.ref b9), .unset] [(.int (1 : Int32))])) _
                    refine XS.goto X53.here hx rfl (pc0 := 148) (pc' := 152) rfl (hb hby at_148) (by decide) (by decide) ?_
                    have ekZ : (own_b (¬ (kv < sz))) = (1 : Int32) := by first | (simp only [own_b, eq_false hc95, and_true, true_and, and_false, false_and, or_true, true_or, or_false, false_or, not_true_eq_false, not_false_eq_true, if_true, if_false, reduceIte]; done) | (simp [own_b, hc95]; done)
                    rw [ekZ] at kZ
                    exact kZ)
                obtain ⟨cq97, kq97, q97a, q97b, q97c⟩ := isOf hZ rfl f53_0
                obtain ⟨_, _, ⟨T97, L97, k97, n97⟩, -, X97, ⟨Lc97, hQ97, l97, y97, z97⟩, st97⟩ := X53.virtualBack hx (y := (⟨oE, "full", "()Z"⟩ : MethodName)) (z := (⟨oE, "full", "()Z"⟩ : MethodName)) hown (mvT hZ (ow hw 91 rfl)) (mvT hZ (ow hw 92 rfl)) (notFace_of_selects (args := #[]) (mvT hZ (ow hw 94 rfl))) (mvT hZ (ow hw 94 rfl)) (mvT hZ (ow hw 93 rfl)) (by decide) (backOf (W := 0) (rm16 l Z a0 hw [] b9 sz (((((0 : Int64) + (1 : Int64)) + (1 : Int64)) + (1 : Int64)) + (1 : Int64)) T53.heap n0 Z57 f53_2 f53_3) hZ (ow hw 95 rfl) (ow hw 7 rfl) (by decide) (by decide)) q97a q97c (g := (mkF m 156 #[.val (.int p0), .val (.int p1), .val (.int p2), .val (.int sz), .val (.int kv), .val (.int (own_b (¬ ((p2 &&& (2 : Int32)) = (0 : Int32))))), .val (.ref b9), .val (.int (own_b (¬ (kv < sz))))] [(.ref b9)])) rfl (by rw [hml]; rfl) (Steps.refl _) (argsL := []) (rest := []) (lenOf pd8 rfl) rfl (by show 2 * 0 + _ ≤ _; exact Nat.le_of_eq rfl) (hb hby at_156) (fun _ _ => ⟨rfl, rfl, (by decide : 3 + 0 ≤ _), (by decide : 8 + 0 ≤ _)⟩)
                dsimp only [Pt.U, Pt.locs, Pt.cells, Pt.slots] at X97 l97 y97 z97 st97 hQ97
                subst l97 y97 z97
                obtain ⟨rfl, N97q, e97⟩ := hQ97
                have N97 := Fr.app N53 N97q
                obtain ⟨fsZ, hrZ, hrun, hended, hW, hsame⟩ := X97.leave (v := some (.int (1 : Int32))) (fun h => by rw [Bd.returns] at h; cases h)
                refine ⟨_, _, pre96 _ ?_, hrun, hended, _, _, rfl, ?_, ⟨_, rfl⟩, hW, hsame.mono (by decide) (by decide)⟩
                · show Steps p.tables e below (T53.setTop (mkF m 152 #[.val (.int p0), .val (.int p1), .val (.int p2), .val (.int sz), .val (.int kv), .val (.int (own_b (¬ ((p2 &&& (2 : Int32)) = (0 : Int32))))), .val (.ref b9), .unset] [(.int (own_b (¬ (kv < sz))))])) _
                  refine XS.istore X53.here hx rfl (hb hby at_152) rfl (l' := #[.val (.int p0), .val (.int p1), .val (.int p2), .val (.int sz), .val (.int kv), .val (.int (own_b (¬ ((p2 &&& (2 : Int32)) = (0 : Int32))))), .val (.ref b9), .val (.int (own_b (¬ (kv < sz))))]) rfl ?_
                  show Steps p.tables e below (T53.setTop (mkF m 154 #[.val (.int p0), .val (.int p1), .val (.int p2), .val (.int sz), .val (.int kv), .val (.int (own_b (¬ ((p2 &&& (2 : Int32)) = (0 : Int32))))), .val (.ref b9), .val (.int (own_b (¬ (kv < sz))))] [])) _
                  refine XS.aload X53.here hx rfl (hb hby at_154) rfl rfl ?_
                  show Steps p.tables e below (T53.setTop (mkF m 156 #[.val (.int p0), .val (.int p1), .val (.int p2), .val (.int sz), .val (.int kv), .val (.int (own_b (¬ ((p2 &&& (2 : Int32)) = (0 : Int32))))), .val (.ref b9), .val (.int (own_b (¬ (kv < sz))))] [(.ref b9)])) _
                  refine st97.trans ?_
                  show Steps p.tables e below (T97.setTop (mkF m 159 #[.val (.int p0), .val (.int p1), .val (.int p2), .val (.int sz), .val (.int kv), .val (.int (own_b (¬ ((p2 &&& (2 : Int32)) = (0 : Int32))))), .val (.ref b9), .val (.int (own_b (¬ (kv < sz))))] [(.int (own_b (¬ ((((((0 : Int64) + (1 : Int64)) + (1 : Int64)) + (1 : Int64)) + (1 : Int64)) < (sz.toInt64)))))])) _
                  refine XS.iload X97.here hx rfl (hb hby at_159) rfl  ?_
                  show Steps p.tables e below (T97.setTop (mkF m 161 #[.val (.int p0), .val (.int p1), .val (.int p2), .val (.int sz), .val (.int kv), .val (.int (own_b (¬ ((p2 &&& (2 : Int32)) = (0 : Int32))))), .val (.ref b9), .val (.int (own_b (¬ (kv < sz))))] [(.int (own_b (¬ (kv < sz)))), (.int (own_b (¬ ((((((0 : Int64) + (1 : Int64)) + (1 : Int64)) + (1 : Int64)) + (1 : Int64)) < (sz.toInt64)))))])) _
                  refine XS.icmpNo X97.here hx rfl (hb hby at_161) rfl (teq (own_fin 4 hsz (by decide) (own_eqk 4 (hc51) hc59 (by decide) (by decide)))).2 ?_
                  show Steps p.tables e below (T97.setTop (mkF m 164 #[.val (.int p0), .val (.int p1), .val (.int p2), .val (.int sz), .val (.int kv), .val (.int (own_b (¬ ((p2 &&& (2 : Int32)) = (0 : Int32))))), .val (.ref b9), .val (.int (own_b (¬ (kv < sz))))] [])) _
                  refine XS.iconst X97.here hx rfl (hb hby at_164) ?_
                  show Steps p.tables e below (T97.setTop (mkF m 165 #[.val (.int p0), .val (.int p1), .val (.int p2), .val (.int sz), .val (.int kv), .val (.int (own_b (¬ ((p2 &&& (2 : Int32)) = (0 : Int32))))), .val (.ref b9), .val (.int (own_b (¬ (kv < sz))))] [(.int (1 : Int32))])) _
                  refine XS.goto X97.here hx rfl (pc0 := 165) (pc' := 169) rfl (hb hby at_165) (by decide) (by decide) ?_
                  show Steps p.tables e below (T97.setTop (mkF m 169 #[.val (.int p0), .val (.int p1), .val (.int p2), .val (.int sz), .val (.int kv), .val (.int (own_b (¬ ((p2 &&& (2 : Int32)) = (0 : Int32))))), .val (.ref b9), .val (.int (own_b (¬ (kv < sz))))] [(.int (1 : Int32))])) _
                  exact retN X97 hx (t := .boolean) Bd.returns (by simp) (hb hby at_169) hrZ
                · show Q0 Z p0 p1 p2 h0 n0 _ T97.heap _
                  rw [e97]
                  exact ⟨rfl, N97⟩
            ·  -- no
              have pre98 : ∀ tZ, Steps p.tables e below (T45.setTop (mkF m 144 #[.val (.int p0), .val (.int p1), .val (.int p2), .val (.int sz), .val (.int kv), .val (.int (own_b (¬ ((p2 &&& (2 : Int32)) = (0 : Int32))))), .val (.ref b9), .unset] [(.int sz), (.int kv)])) tZ → Steps p.tables e below (s₁.setTop (entryFrame m #[(.int p0), (.int p1), (.int p2)] maxLocals)) tZ := fun tZ kZ => pre50 tZ (by
                show Steps p.tables e below (T45.setTop (mkF m 99 #[.val (.int p0), .val (.int p1), .val (.int p2), .val (.int sz), .val (.int kv), .val (.int (own_b (¬ ((p2 &&& (2 : Int32)) = (0 : Int32))))), .val (.ref b9), .unset] [(.int (3 : Int32)), (.int kv)])) _
                refine XS.icmpYes X45.here hx rfl (pc0 := 99) (pc' := 107) rfl (hb hby at_99) rfl (flt hc51).2.2.2 (by decide) (by decide) ?_
                show Steps p.tables e below (T45.setTop (mkF m 107 #[.val (.int p0), .val (.int p1), .val (.int p2), .val (.int sz), .val (.int kv), .val (.int (own_b (¬ ((p2 &&& (2 : Int32)) = (0 : Int32))))), .val (.ref b9), .unset] [])) _
                refine XS.iload X45.here hx rfl (hb hby at_107) rfl  ?_
                show Steps p.tables e below (T45.setTop (mkF m 109 #[.val (.int p0), .val (.int p1), .val (.int p2), .val (.int sz), .val (.int kv), .val (.int (own_b (¬ ((p2 &&& (2 : Int32)) = (0 : Int32))))), .val (.ref b9), .unset] [(.int kv)])) _
                refine XS.iconst X45.here hx rfl (hb hby at_109) ?_
                show Steps p.tables e below (T45.setTop (mkF m 110 #[.val (.int p0), .val (.int p1), .val (.int p2), .val (.int sz), .val (.int kv), .val (.int (own_b (¬ ((p2 &&& (2 : Int32)) = (0 : Int32))))), .val (.ref b9), .unset] [(.int (4 : Int32)), (.int kv)])) _
                refine XS.icmpYes X45.here hx rfl (pc0 := 110) (pc' := 118) rfl (hb hby at_110) rfl (flt (own_no hc51 (by decide))).2.2.2 (by decide) (by decide) ?_
                show Steps p.tables e below (T45.setTop (mkF m 118 #[.val (.int p0), .val (.int p1), .val (.int p2), .val (.int sz), .val (.int kv), .val (.int (own_b (¬ ((p2 &&& (2 : Int32)) = (0 : Int32))))), .val (.ref b9), .unset] [])) _
                refine XS.iload X45.here hx rfl (hb hby at_118) rfl  ?_
                show Steps p.tables e below (T45.setTop (mkF m 120 #[.val (.int p0), .val (.int p1), .val (.int p2), .val (.int sz), .val (.int kv), .val (.int (own_b (¬ ((p2 &&& (2 : Int32)) = (0 : Int32))))), .val (.ref b9), .unset] [(.int kv)])) _
                refine XS.iconst X45.here hx rfl (hb hby at_120) ?_
                show Steps p.tables e below (T45.setTop (mkF m 121 #[.val (.int p0), .val (.int p1), .val (.int p2), .val (.int sz), .val (.int kv), .val (.int (own_b (¬ ((p2 &&& (2 : Int32)) = (0 : Int32))))), .val (.ref b9), .unset] [(.int (5 : Int32)), (.int kv)])) _
                refine XS.icmpYes X45.here hx rfl (pc0 := 121) (pc' := 129) rfl (hb hby at_121) rfl (flt (own_no hc51 (by decide))).2.2.2 (by decide) (by decide) ?_
                show Steps p.tables e below (T45.setTop (mkF m 129 #[.val (.int p0), .val (.int p1), .val (.int p2), .val (.int sz), .val (.int kv), .val (.int (own_b (¬ ((p2 &&& (2 : Int32)) = (0 : Int32))))), .val (.ref b9), .unset] [])) _
                refine XS.iload X45.here hx rfl (hb hby at_129) rfl  ?_
                show Steps p.tables e below (T45.setTop (mkF m 131 #[.val (.int p0), .val (.int p1), .val (.int p2), .val (.int sz), .val (.int kv), .val (.int (own_b (¬ ((p2 &&& (2 : Int32)) = (0 : Int32))))), .val (.ref b9), .unset] [(.int kv)])) _
                refine XS.bipush X45.here hx rfl (hb hby at_131) ?_
                show Steps p.tables e below (T45.setTop (mkF m 133 #[.val (.int p0), .val (.int p1), .val (.int p2), .val (.int sz), .val (.int kv), .val (.int (own_b (¬ ((p2 &&& (2 : Int32)) = (0 : Int32))))), .val (.ref b9), .unset] [(.int (6 : Int32)), (.int kv)])) _
                refine XS.icmpYes X45.here hx rfl (pc0 := 133) (pc' := 141) rfl (hb hby at_133) rfl (flt (own_no hc51 (by decide))).2.2.2 (by decide) (by decide) ?_
                show Steps p.tables e below (T45.setTop (mkF m 141 #[.val (.int p0), .val (.int p1), .val (.int p2), .val (.int sz), .val (.int kv), .val (.int (own_b (¬ ((p2 &&& (2 : Int32)) = (0 : Int32))))), .val (.ref b9), .unset] [])) _
                refine XS.iload X45.here hx rfl (hb hby at_141) rfl  ?_
                show Steps p.tables e below (T45.setTop (mkF m 143 #[.val (.int p0), .val (.int p1), .val (.int p2), .val (.int sz), .val (.int kv), .val (.int (own_b (¬ ((p2 &&& (2 : Int32)) = (0 : Int32))))), .val (.ref b9), .unset] [(.int kv)])) _
                refine XS.iloadN X45.here hx rfl (hb hby at_143) rfl  ?_
                exact kZ)
              have pre100 : ∀ tZ, Steps p.tables e below (T45.setTop (mkF m 152 #[.val (.int p0), .val (.int p1), .val (.int p2), .val (.int sz), .val (.int kv), .val (.int (own_b (¬ ((p2 &&& (2 : Int32)) = (0 : Int32))))), .val (.ref b9), .unset] [(.int (own_b (¬ (kv < sz))))])) tZ → Steps p.tables e below (s₁.setTop (entryFrame m #[(.int p0), (.int p1), (.int p2)] maxLocals)) tZ := fun tZ kZ => pre98 tZ (by
                by_cases hc99 : kv < sz
                ·  -- yes
                  show Steps p.tables e below (T45.setTop (mkF m 144 #[.val (.int p0), .val (.int p1), .val (.int p2), .val (.int sz), .val (.int kv), .val (.int (own_b (¬ ((p2 &&& (2 : Int32)) = (0 : Int32))))), .val (.ref b9), .unset] [(.int sz), (.int kv)])) _
                  refine XS.icmpYes X45.here hx rfl (pc0 := 144) (pc' := 151) rfl (hb hby at_144) rfl (tlt hc99).1 (by decide) (by decide) ?_
                  show Steps p.tables e below (T45.setTop (mkF m 151 #[.val (.int p0), .val (.int p1), .val (.int p2), .val (.int sz), .val (.int kv), .val (.int (own_b (¬ ((p2 &&& (2 : Int32)) = (0 : Int32))))), .val (.ref b9), .unset] [])) _
                  refine XS.iconst X45.here hx rfl (hb hby at_151) ?_
                  have ekZ : (own_b (¬ (kv < sz))) = (0 : Int32) := by first | (simp only [own_b, eq_true hc99, and_true, true_and, and_false, false_and, or_true, true_or, or_false, false_or, not_true_eq_false, not_false_eq_true, if_true, if_false, reduceIte]; done) | (simp [own_b, hc99]; done)
                  rw [ekZ] at kZ
                  exact kZ
                ·  -- no
                  show Steps p.tables e below (T45.setTop (mkF m 144 #[.val (.int p0), .val (.int p1), .val (.int p2), .val (.int sz), .val (.int kv), .val (.int (own_b (¬ ((p2 &&& (2 : Int32)) = (0 : Int32))))), .val (.ref b9), .unset] [(.int sz), (.int kv)])) _
                  refine XS.icmpNo X45.here hx rfl (hb hby at_144) rfl (flt hc99).1 ?_
                  show Steps p.tables e below (T45.setTop (mkF m 147 #[.val (.int p0), .val (.int p1), .val (.int p2), .val (.int sz), .val (.int kv), .val (.int (own_b (¬ ((p2 &&& (2 : Int32)) = (0 : Int32))))), .val (.ref b9), .unset] [])) _
                  refine XS.iconst X45.here hx rfl (hb hby at_147) ?_
                  show Steps p.tables e below (T45.setTop (mkF m 148 #[.val (.int p0), .val (.int p1), .val (.int p2), .val (.int sz), .val (.int kv), .val (.int (own_b (¬ ((p2 &&& (2 : Int32)) = (0 : Int32))))), .val (.ref b9), .unset] [(.int (1 : Int32))])) _
                  refine XS.goto X45.here hx rfl (pc0 := 148) (pc' := 152) rfl (hb hby at_148) (by decide) (by decide) ?_
                  have ekZ : (own_b (¬ (kv < sz))) = (1 : Int32) := by first | (simp only [own_b, eq_false hc99, and_true, true_and, and_false, false_and, or_true, true_or, or_false, false_or, not_true_eq_false, not_false_eq_true, if_true, if_false, reduceIte]; done) | (simp [own_b, hc99]; done)
                  rw [ekZ] at kZ
                  exact kZ)
              obtain ⟨cq101, kq101, q101a, q101b, q101c⟩ := isOf hZ rfl f45_0
              obtain ⟨_, _, ⟨T101, L101, k101, n101⟩, -, X101, ⟨Lc101, hQ101, l101, y101, z101⟩, st101⟩ := X45.virtualBack hx (y := (⟨oE, "full", "()Z"⟩ : MethodName)) (z := (⟨oE, "full", "()Z"⟩ : MethodName)) hown (mvT hZ (ow hw 91 rfl)) (mvT hZ (ow hw 92 rfl)) (notFace_of_selects (args := #[]) (mvT hZ (ow hw 94 rfl))) (mvT hZ (ow hw 94 rfl)) (mvT hZ (ow hw 93 rfl)) (by decide) (backOf (W := 0) (rm16 l Z a0 hw [] b9 sz ((((0 : Int64) + (1 : Int64)) + (1 : Int64)) + (1 : Int64)) T45.heap n0 Z49 f45_2 f45_3) hZ (ow hw 95 rfl) (ow hw 7 rfl) (by decide) (by decide)) q101a q101c (g := (mkF m 156 #[.val (.int p0), .val (.int p1), .val (.int p2), .val (.int sz), .val (.int kv), .val (.int (own_b (¬ ((p2 &&& (2 : Int32)) = (0 : Int32))))), .val (.ref b9), .val (.int (own_b (¬ (kv < sz))))] [(.ref b9)])) rfl (by rw [hml]; rfl) (Steps.refl _) (argsL := []) (rest := []) (lenOf pd8 rfl) rfl (by show 2 * 0 + _ ≤ _; exact Nat.le_of_eq rfl) (hb hby at_156) (fun _ _ => ⟨rfl, rfl, (by decide : 3 + 0 ≤ _), (by decide : 8 + 0 ≤ _)⟩)
              dsimp only [Pt.U, Pt.locs, Pt.cells, Pt.slots] at X101 l101 y101 z101 st101 hQ101
              subst l101 y101 z101
              obtain ⟨rfl, N101q, e101⟩ := hQ101
              have N101 := Fr.app N45 N101q
              obtain ⟨fsZ, hrZ, hrun, hended, hW, hsame⟩ := X101.leave (v := some (.int (1 : Int32))) (fun h => by rw [Bd.returns] at h; cases h)
              refine ⟨_, _, pre100 _ ?_, hrun, hended, _, _, rfl, ?_, ⟨_, rfl⟩, hW, hsame.mono (by decide) (by decide)⟩
              · show Steps p.tables e below (T45.setTop (mkF m 152 #[.val (.int p0), .val (.int p1), .val (.int p2), .val (.int sz), .val (.int kv), .val (.int (own_b (¬ ((p2 &&& (2 : Int32)) = (0 : Int32))))), .val (.ref b9), .unset] [(.int (own_b (¬ (kv < sz))))])) _
                refine XS.istore X45.here hx rfl (hb hby at_152) rfl (l' := #[.val (.int p0), .val (.int p1), .val (.int p2), .val (.int sz), .val (.int kv), .val (.int (own_b (¬ ((p2 &&& (2 : Int32)) = (0 : Int32))))), .val (.ref b9), .val (.int (own_b (¬ (kv < sz))))]) rfl ?_
                show Steps p.tables e below (T45.setTop (mkF m 154 #[.val (.int p0), .val (.int p1), .val (.int p2), .val (.int sz), .val (.int kv), .val (.int (own_b (¬ ((p2 &&& (2 : Int32)) = (0 : Int32))))), .val (.ref b9), .val (.int (own_b (¬ (kv < sz))))] [])) _
                refine XS.aload X45.here hx rfl (hb hby at_154) rfl rfl ?_
                show Steps p.tables e below (T45.setTop (mkF m 156 #[.val (.int p0), .val (.int p1), .val (.int p2), .val (.int sz), .val (.int kv), .val (.int (own_b (¬ ((p2 &&& (2 : Int32)) = (0 : Int32))))), .val (.ref b9), .val (.int (own_b (¬ (kv < sz))))] [(.ref b9)])) _
                refine st101.trans ?_
                show Steps p.tables e below (T101.setTop (mkF m 159 #[.val (.int p0), .val (.int p1), .val (.int p2), .val (.int sz), .val (.int kv), .val (.int (own_b (¬ ((p2 &&& (2 : Int32)) = (0 : Int32))))), .val (.ref b9), .val (.int (own_b (¬ (kv < sz))))] [(.int (own_b (¬ (((((0 : Int64) + (1 : Int64)) + (1 : Int64)) + (1 : Int64)) < (sz.toInt64)))))])) _
                refine XS.iload X101.here hx rfl (hb hby at_159) rfl  ?_
                show Steps p.tables e below (T101.setTop (mkF m 161 #[.val (.int p0), .val (.int p1), .val (.int p2), .val (.int sz), .val (.int kv), .val (.int (own_b (¬ ((p2 &&& (2 : Int32)) = (0 : Int32))))), .val (.ref b9), .val (.int (own_b (¬ (kv < sz))))] [(.int (own_b (¬ (kv < sz)))), (.int (own_b (¬ (((((0 : Int64) + (1 : Int64)) + (1 : Int64)) + (1 : Int64)) < (sz.toInt64)))))])) _
                refine XS.icmpNo X101.here hx rfl (hb hby at_161) rfl (teq (own_fin 3 hsz (by decide) (own_eqk 3 (hc43) hc51 (by decide) (by decide)))).2 ?_
                show Steps p.tables e below (T101.setTop (mkF m 164 #[.val (.int p0), .val (.int p1), .val (.int p2), .val (.int sz), .val (.int kv), .val (.int (own_b (¬ ((p2 &&& (2 : Int32)) = (0 : Int32))))), .val (.ref b9), .val (.int (own_b (¬ (kv < sz))))] [])) _
                refine XS.iconst X101.here hx rfl (hb hby at_164) ?_
                show Steps p.tables e below (T101.setTop (mkF m 165 #[.val (.int p0), .val (.int p1), .val (.int p2), .val (.int sz), .val (.int kv), .val (.int (own_b (¬ ((p2 &&& (2 : Int32)) = (0 : Int32))))), .val (.ref b9), .val (.int (own_b (¬ (kv < sz))))] [(.int (1 : Int32))])) _
                refine XS.goto X101.here hx rfl (pc0 := 165) (pc' := 169) rfl (hb hby at_165) (by decide) (by decide) ?_
                show Steps p.tables e below (T101.setTop (mkF m 169 #[.val (.int p0), .val (.int p1), .val (.int p2), .val (.int sz), .val (.int kv), .val (.int (own_b (¬ ((p2 &&& (2 : Int32)) = (0 : Int32))))), .val (.ref b9), .val (.int (own_b (¬ (kv < sz))))] [(.int (1 : Int32))])) _
                exact retN X101 hx (t := .boolean) Bd.returns (by simp) (hb hby at_169) hrZ
              · show Q0 Z p0 p1 p2 h0 n0 _ T101.heap _
                rw [e101]
                exact ⟨rfl, N101⟩
          ·  -- no
            have pre102 : ∀ tZ, Steps p.tables e below (T37.setTop (mkF m 144 #[.val (.int p0), .val (.int p1), .val (.int p2), .val (.int sz), .val (.int kv), .val (.int (own_b (¬ ((p2 &&& (2 : Int32)) = (0 : Int32))))), .val (.ref b9), .unset] [(.int sz), (.int kv)])) tZ → Steps p.tables e below (s₁.setTop (entryFrame m #[(.int p0), (.int p1), (.int p2)] maxLocals)) tZ := fun tZ kZ => pre42 tZ (by
              show Steps p.tables e below (T37.setTop (mkF m 88 #[.val (.int p0), .val (.int p1), .val (.int p2), .val (.int sz), .val (.int kv), .val (.int (own_b (¬ ((p2 &&& (2 : Int32)) = (0 : Int32))))), .val (.ref b9), .unset] [(.int (2 : Int32)), (.int kv)])) _
              refine XS.icmpYes X37.here hx rfl (pc0 := 88) (pc' := 96) rfl (hb hby at_88) rfl (flt hc43).2.2.2 (by decide) (by decide) ?_
              show Steps p.tables e below (T37.setTop (mkF m 96 #[.val (.int p0), .val (.int p1), .val (.int p2), .val (.int sz), .val (.int kv), .val (.int (own_b (¬ ((p2 &&& (2 : Int32)) = (0 : Int32))))), .val (.ref b9), .unset] [])) _
              refine XS.iload X37.here hx rfl (hb hby at_96) rfl  ?_
              show Steps p.tables e below (T37.setTop (mkF m 98 #[.val (.int p0), .val (.int p1), .val (.int p2), .val (.int sz), .val (.int kv), .val (.int (own_b (¬ ((p2 &&& (2 : Int32)) = (0 : Int32))))), .val (.ref b9), .unset] [(.int kv)])) _
              refine XS.iconst X37.here hx rfl (hb hby at_98) ?_
              show Steps p.tables e below (T37.setTop (mkF m 99 #[.val (.int p0), .val (.int p1), .val (.int p2), .val (.int sz), .val (.int kv), .val (.int (own_b (¬ ((p2 &&& (2 : Int32)) = (0 : Int32))))), .val (.ref b9), .unset] [(.int (3 : Int32)), (.int kv)])) _
              refine XS.icmpYes X37.here hx rfl (pc0 := 99) (pc' := 107) rfl (hb hby at_99) rfl (flt (own_no hc43 (by decide))).2.2.2 (by decide) (by decide) ?_
              show Steps p.tables e below (T37.setTop (mkF m 107 #[.val (.int p0), .val (.int p1), .val (.int p2), .val (.int sz), .val (.int kv), .val (.int (own_b (¬ ((p2 &&& (2 : Int32)) = (0 : Int32))))), .val (.ref b9), .unset] [])) _
              refine XS.iload X37.here hx rfl (hb hby at_107) rfl  ?_
              show Steps p.tables e below (T37.setTop (mkF m 109 #[.val (.int p0), .val (.int p1), .val (.int p2), .val (.int sz), .val (.int kv), .val (.int (own_b (¬ ((p2 &&& (2 : Int32)) = (0 : Int32))))), .val (.ref b9), .unset] [(.int kv)])) _
              refine XS.iconst X37.here hx rfl (hb hby at_109) ?_
              show Steps p.tables e below (T37.setTop (mkF m 110 #[.val (.int p0), .val (.int p1), .val (.int p2), .val (.int sz), .val (.int kv), .val (.int (own_b (¬ ((p2 &&& (2 : Int32)) = (0 : Int32))))), .val (.ref b9), .unset] [(.int (4 : Int32)), (.int kv)])) _
              refine XS.icmpYes X37.here hx rfl (pc0 := 110) (pc' := 118) rfl (hb hby at_110) rfl (flt (own_no hc43 (by decide))).2.2.2 (by decide) (by decide) ?_
              show Steps p.tables e below (T37.setTop (mkF m 118 #[.val (.int p0), .val (.int p1), .val (.int p2), .val (.int sz), .val (.int kv), .val (.int (own_b (¬ ((p2 &&& (2 : Int32)) = (0 : Int32))))), .val (.ref b9), .unset] [])) _
              refine XS.iload X37.here hx rfl (hb hby at_118) rfl  ?_
              show Steps p.tables e below (T37.setTop (mkF m 120 #[.val (.int p0), .val (.int p1), .val (.int p2), .val (.int sz), .val (.int kv), .val (.int (own_b (¬ ((p2 &&& (2 : Int32)) = (0 : Int32))))), .val (.ref b9), .unset] [(.int kv)])) _
              refine XS.iconst X37.here hx rfl (hb hby at_120) ?_
              show Steps p.tables e below (T37.setTop (mkF m 121 #[.val (.int p0), .val (.int p1), .val (.int p2), .val (.int sz), .val (.int kv), .val (.int (own_b (¬ ((p2 &&& (2 : Int32)) = (0 : Int32))))), .val (.ref b9), .unset] [(.int (5 : Int32)), (.int kv)])) _
              refine XS.icmpYes X37.here hx rfl (pc0 := 121) (pc' := 129) rfl (hb hby at_121) rfl (flt (own_no hc43 (by decide))).2.2.2 (by decide) (by decide) ?_
              show Steps p.tables e below (T37.setTop (mkF m 129 #[.val (.int p0), .val (.int p1), .val (.int p2), .val (.int sz), .val (.int kv), .val (.int (own_b (¬ ((p2 &&& (2 : Int32)) = (0 : Int32))))), .val (.ref b9), .unset] [])) _
              refine XS.iload X37.here hx rfl (hb hby at_129) rfl  ?_
              show Steps p.tables e below (T37.setTop (mkF m 131 #[.val (.int p0), .val (.int p1), .val (.int p2), .val (.int sz), .val (.int kv), .val (.int (own_b (¬ ((p2 &&& (2 : Int32)) = (0 : Int32))))), .val (.ref b9), .unset] [(.int kv)])) _
              refine XS.bipush X37.here hx rfl (hb hby at_131) ?_
              show Steps p.tables e below (T37.setTop (mkF m 133 #[.val (.int p0), .val (.int p1), .val (.int p2), .val (.int sz), .val (.int kv), .val (.int (own_b (¬ ((p2 &&& (2 : Int32)) = (0 : Int32))))), .val (.ref b9), .unset] [(.int (6 : Int32)), (.int kv)])) _
              refine XS.icmpYes X37.here hx rfl (pc0 := 133) (pc' := 141) rfl (hb hby at_133) rfl (flt (own_no hc43 (by decide))).2.2.2 (by decide) (by decide) ?_
              show Steps p.tables e below (T37.setTop (mkF m 141 #[.val (.int p0), .val (.int p1), .val (.int p2), .val (.int sz), .val (.int kv), .val (.int (own_b (¬ ((p2 &&& (2 : Int32)) = (0 : Int32))))), .val (.ref b9), .unset] [])) _
              refine XS.iload X37.here hx rfl (hb hby at_141) rfl  ?_
              show Steps p.tables e below (T37.setTop (mkF m 143 #[.val (.int p0), .val (.int p1), .val (.int p2), .val (.int sz), .val (.int kv), .val (.int (own_b (¬ ((p2 &&& (2 : Int32)) = (0 : Int32))))), .val (.ref b9), .unset] [(.int kv)])) _
              refine XS.iloadN X37.here hx rfl (hb hby at_143) rfl  ?_
              exact kZ)
            have pre104 : ∀ tZ, Steps p.tables e below (T37.setTop (mkF m 152 #[.val (.int p0), .val (.int p1), .val (.int p2), .val (.int sz), .val (.int kv), .val (.int (own_b (¬ ((p2 &&& (2 : Int32)) = (0 : Int32))))), .val (.ref b9), .unset] [(.int (own_b (¬ (kv < sz))))])) tZ → Steps p.tables e below (s₁.setTop (entryFrame m #[(.int p0), (.int p1), (.int p2)] maxLocals)) tZ := fun tZ kZ => pre102 tZ (by
              by_cases hc103 : kv < sz
              ·  -- yes
                show Steps p.tables e below (T37.setTop (mkF m 144 #[.val (.int p0), .val (.int p1), .val (.int p2), .val (.int sz), .val (.int kv), .val (.int (own_b (¬ ((p2 &&& (2 : Int32)) = (0 : Int32))))), .val (.ref b9), .unset] [(.int sz), (.int kv)])) _
                refine XS.icmpYes X37.here hx rfl (pc0 := 144) (pc' := 151) rfl (hb hby at_144) rfl (tlt hc103).1 (by decide) (by decide) ?_
                show Steps p.tables e below (T37.setTop (mkF m 151 #[.val (.int p0), .val (.int p1), .val (.int p2), .val (.int sz), .val (.int kv), .val (.int (own_b (¬ ((p2 &&& (2 : Int32)) = (0 : Int32))))), .val (.ref b9), .unset] [])) _
                refine XS.iconst X37.here hx rfl (hb hby at_151) ?_
                have ekZ : (own_b (¬ (kv < sz))) = (0 : Int32) := by first | (simp only [own_b, eq_true hc103, and_true, true_and, and_false, false_and, or_true, true_or, or_false, false_or, not_true_eq_false, not_false_eq_true, if_true, if_false, reduceIte]; done) | (simp [own_b, hc103]; done)
                rw [ekZ] at kZ
                exact kZ
              ·  -- no
                show Steps p.tables e below (T37.setTop (mkF m 144 #[.val (.int p0), .val (.int p1), .val (.int p2), .val (.int sz), .val (.int kv), .val (.int (own_b (¬ ((p2 &&& (2 : Int32)) = (0 : Int32))))), .val (.ref b9), .unset] [(.int sz), (.int kv)])) _
                refine XS.icmpNo X37.here hx rfl (hb hby at_144) rfl (flt hc103).1 ?_
                show Steps p.tables e below (T37.setTop (mkF m 147 #[.val (.int p0), .val (.int p1), .val (.int p2), .val (.int sz), .val (.int kv), .val (.int (own_b (¬ ((p2 &&& (2 : Int32)) = (0 : Int32))))), .val (.ref b9), .unset] [])) _
                refine XS.iconst X37.here hx rfl (hb hby at_147) ?_
                show Steps p.tables e below (T37.setTop (mkF m 148 #[.val (.int p0), .val (.int p1), .val (.int p2), .val (.int sz), .val (.int kv), .val (.int (own_b (¬ ((p2 &&& (2 : Int32)) = (0 : Int32))))), .val (.ref b9), .unset] [(.int (1 : Int32))])) _
                refine XS.goto X37.here hx rfl (pc0 := 148) (pc' := 152) rfl (hb hby at_148) (by decide) (by decide) ?_
                have ekZ : (own_b (¬ (kv < sz))) = (1 : Int32) := by first | (simp only [own_b, eq_false hc103, and_true, true_and, and_false, false_and, or_true, true_or, or_false, false_or, not_true_eq_false, not_false_eq_true, if_true, if_false, reduceIte]; done) | (simp [own_b, hc103]; done)
                rw [ekZ] at kZ
                exact kZ)
            obtain ⟨cq105, kq105, q105a, q105b, q105c⟩ := isOf hZ rfl f37_0
            obtain ⟨_, _, ⟨T105, L105, k105, n105⟩, -, X105, ⟨Lc105, hQ105, l105, y105, z105⟩, st105⟩ := X37.virtualBack hx (y := (⟨oE, "full", "()Z"⟩ : MethodName)) (z := (⟨oE, "full", "()Z"⟩ : MethodName)) hown (mvT hZ (ow hw 91 rfl)) (mvT hZ (ow hw 92 rfl)) (notFace_of_selects (args := #[]) (mvT hZ (ow hw 94 rfl))) (mvT hZ (ow hw 94 rfl)) (mvT hZ (ow hw 93 rfl)) (by decide) (backOf (W := 0) (rm16 l Z a0 hw [] b9 sz (((0 : Int64) + (1 : Int64)) + (1 : Int64)) T37.heap n0 Z41 f37_2 f37_3) hZ (ow hw 95 rfl) (ow hw 7 rfl) (by decide) (by decide)) q105a q105c (g := (mkF m 156 #[.val (.int p0), .val (.int p1), .val (.int p2), .val (.int sz), .val (.int kv), .val (.int (own_b (¬ ((p2 &&& (2 : Int32)) = (0 : Int32))))), .val (.ref b9), .val (.int (own_b (¬ (kv < sz))))] [(.ref b9)])) rfl (by rw [hml]; rfl) (Steps.refl _) (argsL := []) (rest := []) (lenOf pd8 rfl) rfl (by show 2 * 0 + _ ≤ _; exact Nat.le_of_eq rfl) (hb hby at_156) (fun _ _ => ⟨rfl, rfl, (by decide : 3 + 0 ≤ _), (by decide : 8 + 0 ≤ _)⟩)
            dsimp only [Pt.U, Pt.locs, Pt.cells, Pt.slots] at X105 l105 y105 z105 st105 hQ105
            subst l105 y105 z105
            obtain ⟨rfl, N105q, e105⟩ := hQ105
            have N105 := Fr.app N37 N105q
            obtain ⟨fsZ, hrZ, hrun, hended, hW, hsame⟩ := X105.leave (v := some (.int (1 : Int32))) (fun h => by rw [Bd.returns] at h; cases h)
            refine ⟨_, _, pre104 _ ?_, hrun, hended, _, _, rfl, ?_, ⟨_, rfl⟩, hW, hsame.mono (by decide) (by decide)⟩
            · show Steps p.tables e below (T37.setTop (mkF m 152 #[.val (.int p0), .val (.int p1), .val (.int p2), .val (.int sz), .val (.int kv), .val (.int (own_b (¬ ((p2 &&& (2 : Int32)) = (0 : Int32))))), .val (.ref b9), .unset] [(.int (own_b (¬ (kv < sz))))])) _
              refine XS.istore X37.here hx rfl (hb hby at_152) rfl (l' := #[.val (.int p0), .val (.int p1), .val (.int p2), .val (.int sz), .val (.int kv), .val (.int (own_b (¬ ((p2 &&& (2 : Int32)) = (0 : Int32))))), .val (.ref b9), .val (.int (own_b (¬ (kv < sz))))]) rfl ?_
              show Steps p.tables e below (T37.setTop (mkF m 154 #[.val (.int p0), .val (.int p1), .val (.int p2), .val (.int sz), .val (.int kv), .val (.int (own_b (¬ ((p2 &&& (2 : Int32)) = (0 : Int32))))), .val (.ref b9), .val (.int (own_b (¬ (kv < sz))))] [])) _
              refine XS.aload X37.here hx rfl (hb hby at_154) rfl rfl ?_
              show Steps p.tables e below (T37.setTop (mkF m 156 #[.val (.int p0), .val (.int p1), .val (.int p2), .val (.int sz), .val (.int kv), .val (.int (own_b (¬ ((p2 &&& (2 : Int32)) = (0 : Int32))))), .val (.ref b9), .val (.int (own_b (¬ (kv < sz))))] [(.ref b9)])) _
              refine st105.trans ?_
              show Steps p.tables e below (T105.setTop (mkF m 159 #[.val (.int p0), .val (.int p1), .val (.int p2), .val (.int sz), .val (.int kv), .val (.int (own_b (¬ ((p2 &&& (2 : Int32)) = (0 : Int32))))), .val (.ref b9), .val (.int (own_b (¬ (kv < sz))))] [(.int (own_b (¬ ((((0 : Int64) + (1 : Int64)) + (1 : Int64)) < (sz.toInt64)))))])) _
              refine XS.iload X105.here hx rfl (hb hby at_159) rfl  ?_
              show Steps p.tables e below (T105.setTop (mkF m 161 #[.val (.int p0), .val (.int p1), .val (.int p2), .val (.int sz), .val (.int kv), .val (.int (own_b (¬ ((p2 &&& (2 : Int32)) = (0 : Int32))))), .val (.ref b9), .val (.int (own_b (¬ (kv < sz))))] [(.int (own_b (¬ (kv < sz)))), (.int (own_b (¬ ((((0 : Int64) + (1 : Int64)) + (1 : Int64)) < (sz.toInt64)))))])) _
              refine XS.icmpNo X105.here hx rfl (hb hby at_161) rfl (teq (own_fin 2 hsz (by decide) (own_eqk 2 (hc35) hc43 (by decide) (by decide)))).2 ?_
              show Steps p.tables e below (T105.setTop (mkF m 164 #[.val (.int p0), .val (.int p1), .val (.int p2), .val (.int sz), .val (.int kv), .val (.int (own_b (¬ ((p2 &&& (2 : Int32)) = (0 : Int32))))), .val (.ref b9), .val (.int (own_b (¬ (kv < sz))))] [])) _
              refine XS.iconst X105.here hx rfl (hb hby at_164) ?_
              show Steps p.tables e below (T105.setTop (mkF m 165 #[.val (.int p0), .val (.int p1), .val (.int p2), .val (.int sz), .val (.int kv), .val (.int (own_b (¬ ((p2 &&& (2 : Int32)) = (0 : Int32))))), .val (.ref b9), .val (.int (own_b (¬ (kv < sz))))] [(.int (1 : Int32))])) _
              refine XS.goto X105.here hx rfl (pc0 := 165) (pc' := 169) rfl (hb hby at_165) (by decide) (by decide) ?_
              show Steps p.tables e below (T105.setTop (mkF m 169 #[.val (.int p0), .val (.int p1), .val (.int p2), .val (.int sz), .val (.int kv), .val (.int (own_b (¬ ((p2 &&& (2 : Int32)) = (0 : Int32))))), .val (.ref b9), .val (.int (own_b (¬ (kv < sz))))] [(.int (1 : Int32))])) _
              exact retN X105 hx (t := .boolean) Bd.returns (by simp) (hb hby at_169) hrZ
            · show Q0 Z p0 p1 p2 h0 n0 _ T105.heap _
              rw [e105]
              exact ⟨rfl, N105⟩
        ·  -- no
          have pre106 : ∀ tZ, Steps p.tables e below (T29.setTop (mkF m 144 #[.val (.int p0), .val (.int p1), .val (.int p2), .val (.int sz), .val (.int kv), .val (.int (own_b (¬ ((p2 &&& (2 : Int32)) = (0 : Int32))))), .val (.ref b9), .unset] [(.int sz), (.int kv)])) tZ → Steps p.tables e below (s₁.setTop (entryFrame m #[(.int p0), (.int p1), (.int p2)] maxLocals)) tZ := fun tZ kZ => pre34 tZ (by
            show Steps p.tables e below (T29.setTop (mkF m 77 #[.val (.int p0), .val (.int p1), .val (.int p2), .val (.int sz), .val (.int kv), .val (.int (own_b (¬ ((p2 &&& (2 : Int32)) = (0 : Int32))))), .val (.ref b9), .unset] [(.int (1 : Int32)), (.int kv)])) _
            refine XS.icmpYes X29.here hx rfl (pc0 := 77) (pc' := 85) rfl (hb hby at_77) rfl (flt hc35).2.2.2 (by decide) (by decide) ?_
            show Steps p.tables e below (T29.setTop (mkF m 85 #[.val (.int p0), .val (.int p1), .val (.int p2), .val (.int sz), .val (.int kv), .val (.int (own_b (¬ ((p2 &&& (2 : Int32)) = (0 : Int32))))), .val (.ref b9), .unset] [])) _
            refine XS.iload X29.here hx rfl (hb hby at_85) rfl  ?_
            show Steps p.tables e below (T29.setTop (mkF m 87 #[.val (.int p0), .val (.int p1), .val (.int p2), .val (.int sz), .val (.int kv), .val (.int (own_b (¬ ((p2 &&& (2 : Int32)) = (0 : Int32))))), .val (.ref b9), .unset] [(.int kv)])) _
            refine XS.iconst X29.here hx rfl (hb hby at_87) ?_
            show Steps p.tables e below (T29.setTop (mkF m 88 #[.val (.int p0), .val (.int p1), .val (.int p2), .val (.int sz), .val (.int kv), .val (.int (own_b (¬ ((p2 &&& (2 : Int32)) = (0 : Int32))))), .val (.ref b9), .unset] [(.int (2 : Int32)), (.int kv)])) _
            refine XS.icmpYes X29.here hx rfl (pc0 := 88) (pc' := 96) rfl (hb hby at_88) rfl (flt (own_no hc35 (by decide))).2.2.2 (by decide) (by decide) ?_
            show Steps p.tables e below (T29.setTop (mkF m 96 #[.val (.int p0), .val (.int p1), .val (.int p2), .val (.int sz), .val (.int kv), .val (.int (own_b (¬ ((p2 &&& (2 : Int32)) = (0 : Int32))))), .val (.ref b9), .unset] [])) _
            refine XS.iload X29.here hx rfl (hb hby at_96) rfl  ?_
            show Steps p.tables e below (T29.setTop (mkF m 98 #[.val (.int p0), .val (.int p1), .val (.int p2), .val (.int sz), .val (.int kv), .val (.int (own_b (¬ ((p2 &&& (2 : Int32)) = (0 : Int32))))), .val (.ref b9), .unset] [(.int kv)])) _
            refine XS.iconst X29.here hx rfl (hb hby at_98) ?_
            show Steps p.tables e below (T29.setTop (mkF m 99 #[.val (.int p0), .val (.int p1), .val (.int p2), .val (.int sz), .val (.int kv), .val (.int (own_b (¬ ((p2 &&& (2 : Int32)) = (0 : Int32))))), .val (.ref b9), .unset] [(.int (3 : Int32)), (.int kv)])) _
            refine XS.icmpYes X29.here hx rfl (pc0 := 99) (pc' := 107) rfl (hb hby at_99) rfl (flt (own_no hc35 (by decide))).2.2.2 (by decide) (by decide) ?_
            show Steps p.tables e below (T29.setTop (mkF m 107 #[.val (.int p0), .val (.int p1), .val (.int p2), .val (.int sz), .val (.int kv), .val (.int (own_b (¬ ((p2 &&& (2 : Int32)) = (0 : Int32))))), .val (.ref b9), .unset] [])) _
            refine XS.iload X29.here hx rfl (hb hby at_107) rfl  ?_
            show Steps p.tables e below (T29.setTop (mkF m 109 #[.val (.int p0), .val (.int p1), .val (.int p2), .val (.int sz), .val (.int kv), .val (.int (own_b (¬ ((p2 &&& (2 : Int32)) = (0 : Int32))))), .val (.ref b9), .unset] [(.int kv)])) _
            refine XS.iconst X29.here hx rfl (hb hby at_109) ?_
            show Steps p.tables e below (T29.setTop (mkF m 110 #[.val (.int p0), .val (.int p1), .val (.int p2), .val (.int sz), .val (.int kv), .val (.int (own_b (¬ ((p2 &&& (2 : Int32)) = (0 : Int32))))), .val (.ref b9), .unset] [(.int (4 : Int32)), (.int kv)])) _
            refine XS.icmpYes X29.here hx rfl (pc0 := 110) (pc' := 118) rfl (hb hby at_110) rfl (flt (own_no hc35 (by decide))).2.2.2 (by decide) (by decide) ?_
            show Steps p.tables e below (T29.setTop (mkF m 118 #[.val (.int p0), .val (.int p1), .val (.int p2), .val (.int sz), .val (.int kv), .val (.int (own_b (¬ ((p2 &&& (2 : Int32)) = (0 : Int32))))), .val (.ref b9), .unset] [])) _
            refine XS.iload X29.here hx rfl (hb hby at_118) rfl  ?_
            show Steps p.tables e below (T29.setTop (mkF m 120 #[.val (.int p0), .val (.int p1), .val (.int p2), .val (.int sz), .val (.int kv), .val (.int (own_b (¬ ((p2 &&& (2 : Int32)) = (0 : Int32))))), .val (.ref b9), .unset] [(.int kv)])) _
            refine XS.iconst X29.here hx rfl (hb hby at_120) ?_
            show Steps p.tables e below (T29.setTop (mkF m 121 #[.val (.int p0), .val (.int p1), .val (.int p2), .val (.int sz), .val (.int kv), .val (.int (own_b (¬ ((p2 &&& (2 : Int32)) = (0 : Int32))))), .val (.ref b9), .unset] [(.int (5 : Int32)), (.int kv)])) _
            refine XS.icmpYes X29.here hx rfl (pc0 := 121) (pc' := 129) rfl (hb hby at_121) rfl (flt (own_no hc35 (by decide))).2.2.2 (by decide) (by decide) ?_
            show Steps p.tables e below (T29.setTop (mkF m 129 #[.val (.int p0), .val (.int p1), .val (.int p2), .val (.int sz), .val (.int kv), .val (.int (own_b (¬ ((p2 &&& (2 : Int32)) = (0 : Int32))))), .val (.ref b9), .unset] [])) _
            refine XS.iload X29.here hx rfl (hb hby at_129) rfl  ?_
            show Steps p.tables e below (T29.setTop (mkF m 131 #[.val (.int p0), .val (.int p1), .val (.int p2), .val (.int sz), .val (.int kv), .val (.int (own_b (¬ ((p2 &&& (2 : Int32)) = (0 : Int32))))), .val (.ref b9), .unset] [(.int kv)])) _
            refine XS.bipush X29.here hx rfl (hb hby at_131) ?_
            show Steps p.tables e below (T29.setTop (mkF m 133 #[.val (.int p0), .val (.int p1), .val (.int p2), .val (.int sz), .val (.int kv), .val (.int (own_b (¬ ((p2 &&& (2 : Int32)) = (0 : Int32))))), .val (.ref b9), .unset] [(.int (6 : Int32)), (.int kv)])) _
            refine XS.icmpYes X29.here hx rfl (pc0 := 133) (pc' := 141) rfl (hb hby at_133) rfl (flt (own_no hc35 (by decide))).2.2.2 (by decide) (by decide) ?_
            show Steps p.tables e below (T29.setTop (mkF m 141 #[.val (.int p0), .val (.int p1), .val (.int p2), .val (.int sz), .val (.int kv), .val (.int (own_b (¬ ((p2 &&& (2 : Int32)) = (0 : Int32))))), .val (.ref b9), .unset] [])) _
            refine XS.iload X29.here hx rfl (hb hby at_141) rfl  ?_
            show Steps p.tables e below (T29.setTop (mkF m 143 #[.val (.int p0), .val (.int p1), .val (.int p2), .val (.int sz), .val (.int kv), .val (.int (own_b (¬ ((p2 &&& (2 : Int32)) = (0 : Int32))))), .val (.ref b9), .unset] [(.int kv)])) _
            refine XS.iloadN X29.here hx rfl (hb hby at_143) rfl  ?_
            exact kZ)
          have pre108 : ∀ tZ, Steps p.tables e below (T29.setTop (mkF m 152 #[.val (.int p0), .val (.int p1), .val (.int p2), .val (.int sz), .val (.int kv), .val (.int (own_b (¬ ((p2 &&& (2 : Int32)) = (0 : Int32))))), .val (.ref b9), .unset] [(.int (own_b (¬ (kv < sz))))])) tZ → Steps p.tables e below (s₁.setTop (entryFrame m #[(.int p0), (.int p1), (.int p2)] maxLocals)) tZ := fun tZ kZ => pre106 tZ (by
            by_cases hc107 : kv < sz
            ·  -- yes
              show Steps p.tables e below (T29.setTop (mkF m 144 #[.val (.int p0), .val (.int p1), .val (.int p2), .val (.int sz), .val (.int kv), .val (.int (own_b (¬ ((p2 &&& (2 : Int32)) = (0 : Int32))))), .val (.ref b9), .unset] [(.int sz), (.int kv)])) _
              refine XS.icmpYes X29.here hx rfl (pc0 := 144) (pc' := 151) rfl (hb hby at_144) rfl (tlt hc107).1 (by decide) (by decide) ?_
              show Steps p.tables e below (T29.setTop (mkF m 151 #[.val (.int p0), .val (.int p1), .val (.int p2), .val (.int sz), .val (.int kv), .val (.int (own_b (¬ ((p2 &&& (2 : Int32)) = (0 : Int32))))), .val (.ref b9), .unset] [])) _
              refine XS.iconst X29.here hx rfl (hb hby at_151) ?_
              have ekZ : (own_b (¬ (kv < sz))) = (0 : Int32) := by first | (simp only [own_b, eq_true hc107, and_true, true_and, and_false, false_and, or_true, true_or, or_false, false_or, not_true_eq_false, not_false_eq_true, if_true, if_false, reduceIte]; done) | (simp [own_b, hc107]; done)
              rw [ekZ] at kZ
              exact kZ
            ·  -- no
              show Steps p.tables e below (T29.setTop (mkF m 144 #[.val (.int p0), .val (.int p1), .val (.int p2), .val (.int sz), .val (.int kv), .val (.int (own_b (¬ ((p2 &&& (2 : Int32)) = (0 : Int32))))), .val (.ref b9), .unset] [(.int sz), (.int kv)])) _
              refine XS.icmpNo X29.here hx rfl (hb hby at_144) rfl (flt hc107).1 ?_
              show Steps p.tables e below (T29.setTop (mkF m 147 #[.val (.int p0), .val (.int p1), .val (.int p2), .val (.int sz), .val (.int kv), .val (.int (own_b (¬ ((p2 &&& (2 : Int32)) = (0 : Int32))))), .val (.ref b9), .unset] [])) _
              refine XS.iconst X29.here hx rfl (hb hby at_147) ?_
              show Steps p.tables e below (T29.setTop (mkF m 148 #[.val (.int p0), .val (.int p1), .val (.int p2), .val (.int sz), .val (.int kv), .val (.int (own_b (¬ ((p2 &&& (2 : Int32)) = (0 : Int32))))), .val (.ref b9), .unset] [(.int (1 : Int32))])) _
              refine XS.goto X29.here hx rfl (pc0 := 148) (pc' := 152) rfl (hb hby at_148) (by decide) (by decide) ?_
              have ekZ : (own_b (¬ (kv < sz))) = (1 : Int32) := by first | (simp only [own_b, eq_false hc107, and_true, true_and, and_false, false_and, or_true, true_or, or_false, false_or, not_true_eq_false, not_false_eq_true, if_true, if_false, reduceIte]; done) | (simp [own_b, hc107]; done)
              rw [ekZ] at kZ
              exact kZ)
          obtain ⟨cq109, kq109, q109a, q109b, q109c⟩ := isOf hZ rfl f29_0
          obtain ⟨_, _, ⟨T109, L109, k109, n109⟩, -, X109, ⟨Lc109, hQ109, l109, y109, z109⟩, st109⟩ := X29.virtualBack hx (y := (⟨oE, "full", "()Z"⟩ : MethodName)) (z := (⟨oE, "full", "()Z"⟩ : MethodName)) hown (mvT hZ (ow hw 91 rfl)) (mvT hZ (ow hw 92 rfl)) (notFace_of_selects (args := #[]) (mvT hZ (ow hw 94 rfl))) (mvT hZ (ow hw 94 rfl)) (mvT hZ (ow hw 93 rfl)) (by decide) (backOf (W := 0) (rm16 l Z a0 hw [] b9 sz ((0 : Int64) + (1 : Int64)) T29.heap n0 Z33 f29_2 f29_3) hZ (ow hw 95 rfl) (ow hw 7 rfl) (by decide) (by decide)) q109a q109c (g := (mkF m 156 #[.val (.int p0), .val (.int p1), .val (.int p2), .val (.int sz), .val (.int kv), .val (.int (own_b (¬ ((p2 &&& (2 : Int32)) = (0 : Int32))))), .val (.ref b9), .val (.int (own_b (¬ (kv < sz))))] [(.ref b9)])) rfl (by rw [hml]; rfl) (Steps.refl _) (argsL := []) (rest := []) (lenOf pd8 rfl) rfl (by show 2 * 0 + _ ≤ _; exact Nat.le_of_eq rfl) (hb hby at_156) (fun _ _ => ⟨rfl, rfl, (by decide : 3 + 0 ≤ _), (by decide : 8 + 0 ≤ _)⟩)
          dsimp only [Pt.U, Pt.locs, Pt.cells, Pt.slots] at X109 l109 y109 z109 st109 hQ109
          subst l109 y109 z109
          obtain ⟨rfl, N109q, e109⟩ := hQ109
          have N109 := Fr.app N29 N109q
          obtain ⟨fsZ, hrZ, hrun, hended, hW, hsame⟩ := X109.leave (v := some (.int (1 : Int32))) (fun h => by rw [Bd.returns] at h; cases h)
          refine ⟨_, _, pre108 _ ?_, hrun, hended, _, _, rfl, ?_, ⟨_, rfl⟩, hW, hsame.mono (by decide) (by decide)⟩
          · show Steps p.tables e below (T29.setTop (mkF m 152 #[.val (.int p0), .val (.int p1), .val (.int p2), .val (.int sz), .val (.int kv), .val (.int (own_b (¬ ((p2 &&& (2 : Int32)) = (0 : Int32))))), .val (.ref b9), .unset] [(.int (own_b (¬ (kv < sz))))])) _
            refine XS.istore X29.here hx rfl (hb hby at_152) rfl (l' := #[.val (.int p0), .val (.int p1), .val (.int p2), .val (.int sz), .val (.int kv), .val (.int (own_b (¬ ((p2 &&& (2 : Int32)) = (0 : Int32))))), .val (.ref b9), .val (.int (own_b (¬ (kv < sz))))]) rfl ?_
            show Steps p.tables e below (T29.setTop (mkF m 154 #[.val (.int p0), .val (.int p1), .val (.int p2), .val (.int sz), .val (.int kv), .val (.int (own_b (¬ ((p2 &&& (2 : Int32)) = (0 : Int32))))), .val (.ref b9), .val (.int (own_b (¬ (kv < sz))))] [])) _
            refine XS.aload X29.here hx rfl (hb hby at_154) rfl rfl ?_
            show Steps p.tables e below (T29.setTop (mkF m 156 #[.val (.int p0), .val (.int p1), .val (.int p2), .val (.int sz), .val (.int kv), .val (.int (own_b (¬ ((p2 &&& (2 : Int32)) = (0 : Int32))))), .val (.ref b9), .val (.int (own_b (¬ (kv < sz))))] [(.ref b9)])) _
            refine st109.trans ?_
            show Steps p.tables e below (T109.setTop (mkF m 159 #[.val (.int p0), .val (.int p1), .val (.int p2), .val (.int sz), .val (.int kv), .val (.int (own_b (¬ ((p2 &&& (2 : Int32)) = (0 : Int32))))), .val (.ref b9), .val (.int (own_b (¬ (kv < sz))))] [(.int (own_b (¬ (((0 : Int64) + (1 : Int64)) < (sz.toInt64)))))])) _
            refine XS.iload X109.here hx rfl (hb hby at_159) rfl  ?_
            show Steps p.tables e below (T109.setTop (mkF m 161 #[.val (.int p0), .val (.int p1), .val (.int p2), .val (.int sz), .val (.int kv), .val (.int (own_b (¬ ((p2 &&& (2 : Int32)) = (0 : Int32))))), .val (.ref b9), .val (.int (own_b (¬ (kv < sz))))] [(.int (own_b (¬ (kv < sz)))), (.int (own_b (¬ (((0 : Int64) + (1 : Int64)) < (sz.toInt64)))))])) _
            refine XS.icmpNo X109.here hx rfl (hb hby at_161) rfl (teq (own_fin 1 hsz (by decide) (own_eqk 1 (hc19) hc35 (by decide) (by decide)))).2 ?_
            show Steps p.tables e below (T109.setTop (mkF m 164 #[.val (.int p0), .val (.int p1), .val (.int p2), .val (.int sz), .val (.int kv), .val (.int (own_b (¬ ((p2 &&& (2 : Int32)) = (0 : Int32))))), .val (.ref b9), .val (.int (own_b (¬ (kv < sz))))] [])) _
            refine XS.iconst X109.here hx rfl (hb hby at_164) ?_
            show Steps p.tables e below (T109.setTop (mkF m 165 #[.val (.int p0), .val (.int p1), .val (.int p2), .val (.int sz), .val (.int kv), .val (.int (own_b (¬ ((p2 &&& (2 : Int32)) = (0 : Int32))))), .val (.ref b9), .val (.int (own_b (¬ (kv < sz))))] [(.int (1 : Int32))])) _
            refine XS.goto X109.here hx rfl (pc0 := 165) (pc' := 169) rfl (hb hby at_165) (by decide) (by decide) ?_
            show Steps p.tables e below (T109.setTop (mkF m 169 #[.val (.int p0), .val (.int p1), .val (.int p2), .val (.int sz), .val (.int kv), .val (.int (own_b (¬ ((p2 &&& (2 : Int32)) = (0 : Int32))))), .val (.ref b9), .val (.int (own_b (¬ (kv < sz))))] [(.int (1 : Int32))])) _
            exact retN X109 hx (t := .boolean) Bd.returns (by simp) (hb hby at_169) hrZ
          · show Q0 Z p0 p1 p2 h0 n0 _ T109.heap _
            rw [e109]
            exact ⟨rfl, N109⟩
      ·  -- no
        have pre110 : ∀ tZ, Steps p.tables e below (T21.setTop (mkF m 77 #[.val (.int p0), .val (.int p1), .val (.int p2), .val (.int sz), .val (.int kv), .val (.int (own_b (¬ ((p2 &&& (2 : Int32)) = (0 : Int32))))), .val (.ref b9), .unset] [(.int (1 : Int32)), (.int kv)])) tZ → Steps p.tables e below (s₁.setTop (entryFrame m #[(.int p0), (.int p1), (.int p2)] maxLocals)) tZ := fun tZ kZ => pre26 tZ (by
          show Steps p.tables e below (T21.setTop (mkF m 66 #[.val (.int p0), .val (.int p1), .val (.int p2), .val (.int sz), .val (.int kv), .val (.int (own_b (¬ ((p2 &&& (2 : Int32)) = (0 : Int32))))), .val (.ref b9), .unset] [(.int (own_b (¬ ((p2 &&& (2 : Int32)) = (0 : Int32)))))])) _
          refine XS.ifYes X21.here hx rfl (pc0 := 66) (pc' := 74) rfl (hb hby at_66) rfl ((if0 _ _).trans (teq (own_b_f hc27)).1) (by decide) (by decide) ?_
          show Steps p.tables e below (T21.setTop (mkF m 74 #[.val (.int p0), .val (.int p1), .val (.int p2), .val (.int sz), .val (.int kv), .val (.int (own_b (¬ ((p2 &&& (2 : Int32)) = (0 : Int32))))), .val (.ref b9), .unset] [])) _
          refine XS.iload X21.here hx rfl (hb hby at_74) rfl  ?_
          show Steps p.tables e below (T21.setTop (mkF m 76 #[.val (.int p0), .val (.int p1), .val (.int p2), .val (.int sz), .val (.int kv), .val (.int (own_b (¬ ((p2 &&& (2 : Int32)) = (0 : Int32))))), .val (.ref b9), .unset] [(.int kv)])) _
          refine XS.iconst X21.here hx rfl (hb hby at_76) ?_
          exact kZ)
        by_cases hc111 : (1 : Int32) < kv
        ·  -- yes
          have fa112 : Old Z n0 T21.heap := (fa20.keep K21 (allS (P := fun x => n0 ≤ x) gn_b9 (allS (P := fun x => n0 ≤ x) u11_0 (allS (P := fun x => n0 ≤ x) u11_2 all0))))
          obtain ⟨cq113, kq113, q113a, q113b, q113c⟩ := isOf hZ rfl f21_0
          obtain ⟨_, _, ⟨T113, L113, k113, n113⟩, -, X113, ⟨Lc113, hQ113, l113, y113, z113⟩, st113⟩ := X21.virtualBack hx (y := (⟨oE, "take", "()V"⟩ : MethodName)) (z := (⟨oE, "take", "()V"⟩ : MethodName)) hown (mvT hZ (ow hw 40 rfl)) (mvT hZ (ow hw 41 rfl)) (notFace_of_selects (args := #[]) (mvT hZ (ow hw 43 rfl))) (mvT hZ (ow hw 43 rfl)) (mvT hZ (ow hw 42 rfl)) (by decide) (backOf (W := 0) (rm7 l Z a0 hw [] b9 b_12 sz ((0 : Int64) + (1 : Int64)) mn_22 wa_13 kl_14 wn_23 vn_24 T21.heap n0 Z25 f21_0 f21_1 f21_2 f21_3 f21_4 f21_5 f21_6 f21_7 f21_8 hsz (by decide) (by decide) (by first | assumption | decide) S1 fa112 gn_b9 ne16 ne17 u11_0 u11_2 u11_4) hZ (ow hw 44 rfl) (ow hw 7 rfl) (by decide) (by decide)) q113a q113c (g := (mkF m 82 #[.val (.int p0), .val (.int p1), .val (.int p2), .val (.int sz), .val (.int kv), .val (.int (own_b (¬ ((p2 &&& (2 : Int32)) = (0 : Int32))))), .val (.ref b9), .unset] [(.ref b9)])) rfl (by rw [hml]; rfl) (Steps.refl _) (argsL := []) (rest := []) (lenOf pd4 rfl) rfl (by show 2 * 0 + _ ≤ _; exact Nat.le_of_eq rfl) (hb hby at_82) (fun _ _ => ⟨rfl, rfl, (by decide : 3 + 0 ≤ _), (by decide : 8 + 0 ≤ _)⟩)
          dsimp only [Pt.U, Pt.locs, Pt.cells, Pt.slots] at X113 l113 y113 z113 st113 hQ113
          subst l113 y113 z113
          obtain ⟨mn_114, wn_115, vn_116, rfl, N113q, K113, u113_0, f113_0, f113_1, f113_2, f113_3, f113_4, f113_5, f113_6, f113_7, f113_8⟩ := hQ113
          have N113 := Fr.app N21 N113q
          have Z117 : n0 ≤ T113.heap.size := Nat.le_trans Z25 K113.1
          have pre118 : ∀ tZ, Steps p.tables e below (T113.setTop (mkF m 88 #[.val (.int p0), .val (.int p1), .val (.int p2), .val (.int sz), .val (.int kv), .val (.int (own_b (¬ ((p2 &&& (2 : Int32)) = (0 : Int32))))), .val (.ref b9), .unset] [(.int (2 : Int32)), (.int kv)])) tZ → Steps p.tables e below (s₁.setTop (entryFrame m #[(.int p0), (.int p1), (.int p2)] maxLocals)) tZ := fun tZ kZ => pre110 tZ (by
            show Steps p.tables e below (T21.setTop (mkF m 77 #[.val (.int p0), .val (.int p1), .val (.int p2), .val (.int sz), .val (.int kv), .val (.int (own_b (¬ ((p2 &&& (2 : Int32)) = (0 : Int32))))), .val (.ref b9), .unset] [(.int (1 : Int32)), (.int kv)])) _
            refine XS.icmpNo X21.here hx rfl (hb hby at_77) rfl (tlt hc111).2.2.2 ?_
            show Steps p.tables e below (T21.setTop (mkF m 80 #[.val (.int p0), .val (.int p1), .val (.int p2), .val (.int sz), .val (.int kv), .val (.int (own_b (¬ ((p2 &&& (2 : Int32)) = (0 : Int32))))), .val (.ref b9), .unset] [])) _
            refine XS.aload X21.here hx rfl (hb hby at_80) rfl rfl ?_
            show Steps p.tables e below (T21.setTop (mkF m 82 #[.val (.int p0), .val (.int p1), .val (.int p2), .val (.int sz), .val (.int kv), .val (.int (own_b (¬ ((p2 &&& (2 : Int32)) = (0 : Int32))))), .val (.ref b9), .unset] [(.ref b9)])) _
            refine st113.trans ?_
            show Steps p.tables e below (T113.setTop (mkF m 85 #[.val (.int p0), .val (.int p1), .val (.int p2), .val (.int sz), .val (.int kv), .val (.int (own_b (¬ ((p2 &&& (2 : Int32)) = (0 : Int32))))), .val (.ref b9), .unset] [])) _
            refine XS.iload X113.here hx rfl (hb hby at_85) rfl  ?_
            show Steps p.tables e below (T113.setTop (mkF m 87 #[.val (.int p0), .val (.int p1), .val (.int p2), .val (.int sz), .val (.int kv), .val (.int (own_b (¬ ((p2 &&& (2 : Int32)) = (0 : Int32))))), .val (.ref b9), .unset] [(.int kv)])) _
            refine XS.iconst X113.here hx rfl (hb hby at_87) ?_
            exact kZ)
          by_cases hc119 : (2 : Int32) < kv
          ·  -- yes
            have fa120 : Old Z n0 T113.heap := (fa112.keep K113 (allS (P := fun x => n0 ≤ x) gn_b9 (allS (P := fun x => n0 ≤ x) u11_0 (allS (P := fun x => n0 ≤ x) u11_2 all0))))
            obtain ⟨cq121, kq121, q121a, q121b, q121c⟩ := isOf hZ rfl f113_0
            obtain ⟨_, _, ⟨T121, L121, k121, n121⟩, -, X121, ⟨Lc121, hQ121, l121, y121, z121⟩, st121⟩ := X113.virtualBack hx (y := (⟨oE, "take", "()V"⟩ : MethodName)) (z := (⟨oE, "take", "()V"⟩ : MethodName)) hown (mvT hZ (ow hw 40 rfl)) (mvT hZ (ow hw 41 rfl)) (notFace_of_selects (args := #[]) (mvT hZ (ow hw 43 rfl))) (mvT hZ (ow hw 43 rfl)) (mvT hZ (ow hw 42 rfl)) (by decide) (backOf (W := 0) (rm7 l Z a0 hw [] b9 b_12 sz (((0 : Int64) + (1 : Int64)) + (1 : Int64)) mn_114 wa_13 kl_14 wn_115 vn_116 T113.heap n0 Z117 f113_0 f113_1 f113_2 f113_3 f113_4 f113_5 f113_6 f113_7 f113_8 hsz (by decide) (by decide) (by first | assumption | decide) S1 fa120 gn_b9 ne16 ne17 u11_0 u11_2 u11_4) hZ (ow hw 44 rfl) (ow hw 7 rfl) (by decide) (by decide)) q121a q121c (g := (mkF m 93 #[.val (.int p0), .val (.int p1), .val (.int p2), .val (.int sz), .val (.int kv), .val (.int (own_b (¬ ((p2 &&& (2 : Int32)) = (0 : Int32))))), .val (.ref b9), .unset] [(.ref b9)])) rfl (by rw [hml]; rfl) (Steps.refl _) (argsL := []) (rest := []) (lenOf pd4 rfl) rfl (by show 2 * 0 + _ ≤ _; exact Nat.le_of_eq rfl) (hb hby at_93) (fun _ _ => ⟨rfl, rfl, (by decide : 3 + 0 ≤ _), (by decide : 8 + 0 ≤ _)⟩)
            dsimp only [Pt.U, Pt.locs, Pt.cells, Pt.slots] at X121 l121 y121 z121 st121 hQ121
            subst l121 y121 z121
            obtain ⟨mn_122, wn_123, vn_124, rfl, N121q, K121, u121_0, f121_0, f121_1, f121_2, f121_3, f121_4, f121_5, f121_6, f121_7, f121_8⟩ := hQ121
            have N121 := Fr.app N113 N121q
            have Z125 : n0 ≤ T121.heap.size := Nat.le_trans Z117 K121.1
            have pre126 : ∀ tZ, Steps p.tables e below (T121.setTop (mkF m 99 #[.val (.int p0), .val (.int p1), .val (.int p2), .val (.int sz), .val (.int kv), .val (.int (own_b (¬ ((p2 &&& (2 : Int32)) = (0 : Int32))))), .val (.ref b9), .unset] [(.int (3 : Int32)), (.int kv)])) tZ → Steps p.tables e below (s₁.setTop (entryFrame m #[(.int p0), (.int p1), (.int p2)] maxLocals)) tZ := fun tZ kZ => pre118 tZ (by
              show Steps p.tables e below (T113.setTop (mkF m 88 #[.val (.int p0), .val (.int p1), .val (.int p2), .val (.int sz), .val (.int kv), .val (.int (own_b (¬ ((p2 &&& (2 : Int32)) = (0 : Int32))))), .val (.ref b9), .unset] [(.int (2 : Int32)), (.int kv)])) _
              refine XS.icmpNo X113.here hx rfl (hb hby at_88) rfl (tlt hc119).2.2.2 ?_
              show Steps p.tables e below (T113.setTop (mkF m 91 #[.val (.int p0), .val (.int p1), .val (.int p2), .val (.int sz), .val (.int kv), .val (.int (own_b (¬ ((p2 &&& (2 : Int32)) = (0 : Int32))))), .val (.ref b9), .unset] [])) _
              refine XS.aload X113.here hx rfl (hb hby at_91) rfl rfl ?_
              show Steps p.tables e below (T113.setTop (mkF m 93 #[.val (.int p0), .val (.int p1), .val (.int p2), .val (.int sz), .val (.int kv), .val (.int (own_b (¬ ((p2 &&& (2 : Int32)) = (0 : Int32))))), .val (.ref b9), .unset] [(.ref b9)])) _
              refine st121.trans ?_
              show Steps p.tables e below (T121.setTop (mkF m 96 #[.val (.int p0), .val (.int p1), .val (.int p2), .val (.int sz), .val (.int kv), .val (.int (own_b (¬ ((p2 &&& (2 : Int32)) = (0 : Int32))))), .val (.ref b9), .unset] [])) _
              refine XS.iload X121.here hx rfl (hb hby at_96) rfl  ?_
              show Steps p.tables e below (T121.setTop (mkF m 98 #[.val (.int p0), .val (.int p1), .val (.int p2), .val (.int sz), .val (.int kv), .val (.int (own_b (¬ ((p2 &&& (2 : Int32)) = (0 : Int32))))), .val (.ref b9), .unset] [(.int kv)])) _
              refine XS.iconst X121.here hx rfl (hb hby at_98) ?_
              exact kZ)
            by_cases hc127 : (3 : Int32) < kv
            ·  -- yes
              have fa128 : Old Z n0 T121.heap := (fa120.keep K121 (allS (P := fun x => n0 ≤ x) gn_b9 (allS (P := fun x => n0 ≤ x) u11_0 (allS (P := fun x => n0 ≤ x) u11_2 all0))))
              obtain ⟨cq129, kq129, q129a, q129b, q129c⟩ := isOf hZ rfl f121_0
              obtain ⟨_, _, ⟨T129, L129, k129, n129⟩, -, X129, ⟨Lc129, hQ129, l129, y129, z129⟩, st129⟩ := X121.virtualBack hx (y := (⟨oE, "take", "()V"⟩ : MethodName)) (z := (⟨oE, "take", "()V"⟩ : MethodName)) hown (mvT hZ (ow hw 40 rfl)) (mvT hZ (ow hw 41 rfl)) (notFace_of_selects (args := #[]) (mvT hZ (ow hw 43 rfl))) (mvT hZ (ow hw 43 rfl)) (mvT hZ (ow hw 42 rfl)) (by decide) (backOf (W := 0) (rm7 l Z a0 hw [] b9 b_12 sz ((((0 : Int64) + (1 : Int64)) + (1 : Int64)) + (1 : Int64)) mn_122 wa_13 kl_14 wn_123 vn_124 T121.heap n0 Z125 f121_0 f121_1 f121_2 f121_3 f121_4 f121_5 f121_6 f121_7 f121_8 hsz (by decide) (by decide) (by first | assumption | decide) S1 fa128 gn_b9 ne16 ne17 u11_0 u11_2 u11_4) hZ (ow hw 44 rfl) (ow hw 7 rfl) (by decide) (by decide)) q129a q129c (g := (mkF m 104 #[.val (.int p0), .val (.int p1), .val (.int p2), .val (.int sz), .val (.int kv), .val (.int (own_b (¬ ((p2 &&& (2 : Int32)) = (0 : Int32))))), .val (.ref b9), .unset] [(.ref b9)])) rfl (by rw [hml]; rfl) (Steps.refl _) (argsL := []) (rest := []) (lenOf pd4 rfl) rfl (by show 2 * 0 + _ ≤ _; exact Nat.le_of_eq rfl) (hb hby at_104) (fun _ _ => ⟨rfl, rfl, (by decide : 3 + 0 ≤ _), (by decide : 8 + 0 ≤ _)⟩)
              dsimp only [Pt.U, Pt.locs, Pt.cells, Pt.slots] at X129 l129 y129 z129 st129 hQ129
              subst l129 y129 z129
              obtain ⟨mn_130, wn_131, vn_132, rfl, N129q, K129, u129_0, f129_0, f129_1, f129_2, f129_3, f129_4, f129_5, f129_6, f129_7, f129_8⟩ := hQ129
              have N129 := Fr.app N121 N129q
              have Z133 : n0 ≤ T129.heap.size := Nat.le_trans Z125 K129.1
              have pre134 : ∀ tZ, Steps p.tables e below (T129.setTop (mkF m 110 #[.val (.int p0), .val (.int p1), .val (.int p2), .val (.int sz), .val (.int kv), .val (.int (own_b (¬ ((p2 &&& (2 : Int32)) = (0 : Int32))))), .val (.ref b9), .unset] [(.int (4 : Int32)), (.int kv)])) tZ → Steps p.tables e below (s₁.setTop (entryFrame m #[(.int p0), (.int p1), (.int p2)] maxLocals)) tZ := fun tZ kZ => pre126 tZ (by
                show Steps p.tables e below (T121.setTop (mkF m 99 #[.val (.int p0), .val (.int p1), .val (.int p2), .val (.int sz), .val (.int kv), .val (.int (own_b (¬ ((p2 &&& (2 : Int32)) = (0 : Int32))))), .val (.ref b9), .unset] [(.int (3 : Int32)), (.int kv)])) _
                refine XS.icmpNo X121.here hx rfl (hb hby at_99) rfl (tlt hc127).2.2.2 ?_
                show Steps p.tables e below (T121.setTop (mkF m 102 #[.val (.int p0), .val (.int p1), .val (.int p2), .val (.int sz), .val (.int kv), .val (.int (own_b (¬ ((p2 &&& (2 : Int32)) = (0 : Int32))))), .val (.ref b9), .unset] [])) _
                refine XS.aload X121.here hx rfl (hb hby at_102) rfl rfl ?_
                show Steps p.tables e below (T121.setTop (mkF m 104 #[.val (.int p0), .val (.int p1), .val (.int p2), .val (.int sz), .val (.int kv), .val (.int (own_b (¬ ((p2 &&& (2 : Int32)) = (0 : Int32))))), .val (.ref b9), .unset] [(.ref b9)])) _
                refine st129.trans ?_
                show Steps p.tables e below (T129.setTop (mkF m 107 #[.val (.int p0), .val (.int p1), .val (.int p2), .val (.int sz), .val (.int kv), .val (.int (own_b (¬ ((p2 &&& (2 : Int32)) = (0 : Int32))))), .val (.ref b9), .unset] [])) _
                refine XS.iload X129.here hx rfl (hb hby at_107) rfl  ?_
                show Steps p.tables e below (T129.setTop (mkF m 109 #[.val (.int p0), .val (.int p1), .val (.int p2), .val (.int sz), .val (.int kv), .val (.int (own_b (¬ ((p2 &&& (2 : Int32)) = (0 : Int32))))), .val (.ref b9), .unset] [(.int kv)])) _
                refine XS.iconst X129.here hx rfl (hb hby at_109) ?_
                exact kZ)
              by_cases hc135 : (4 : Int32) < kv
              ·  -- yes
                have fa136 : Old Z n0 T129.heap := (fa128.keep K129 (allS (P := fun x => n0 ≤ x) gn_b9 (allS (P := fun x => n0 ≤ x) u11_0 (allS (P := fun x => n0 ≤ x) u11_2 all0))))
                obtain ⟨cq137, kq137, q137a, q137b, q137c⟩ := isOf hZ rfl f129_0
                obtain ⟨_, _, ⟨T137, L137, k137, n137⟩, -, X137, ⟨Lc137, hQ137, l137, y137, z137⟩, st137⟩ := X129.virtualBack hx (y := (⟨oE, "take", "()V"⟩ : MethodName)) (z := (⟨oE, "take", "()V"⟩ : MethodName)) hown (mvT hZ (ow hw 40 rfl)) (mvT hZ (ow hw 41 rfl)) (notFace_of_selects (args := #[]) (mvT hZ (ow hw 43 rfl))) (mvT hZ (ow hw 43 rfl)) (mvT hZ (ow hw 42 rfl)) (by decide) (backOf (W := 0) (rm7 l Z a0 hw [] b9 b_12 sz (((((0 : Int64) + (1 : Int64)) + (1 : Int64)) + (1 : Int64)) + (1 : Int64)) mn_130 wa_13 kl_14 wn_131 vn_132 T129.heap n0 Z133 f129_0 f129_1 f129_2 f129_3 f129_4 f129_5 f129_6 f129_7 f129_8 hsz (by decide) (by decide) (by first | assumption | decide) S1 fa136 gn_b9 ne16 ne17 u11_0 u11_2 u11_4) hZ (ow hw 44 rfl) (ow hw 7 rfl) (by decide) (by decide)) q137a q137c (g := (mkF m 115 #[.val (.int p0), .val (.int p1), .val (.int p2), .val (.int sz), .val (.int kv), .val (.int (own_b (¬ ((p2 &&& (2 : Int32)) = (0 : Int32))))), .val (.ref b9), .unset] [(.ref b9)])) rfl (by rw [hml]; rfl) (Steps.refl _) (argsL := []) (rest := []) (lenOf pd4 rfl) rfl (by show 2 * 0 + _ ≤ _; exact Nat.le_of_eq rfl) (hb hby at_115) (fun _ _ => ⟨rfl, rfl, (by decide : 3 + 0 ≤ _), (by decide : 8 + 0 ≤ _)⟩)
                dsimp only [Pt.U, Pt.locs, Pt.cells, Pt.slots] at X137 l137 y137 z137 st137 hQ137
                subst l137 y137 z137
                obtain ⟨mn_138, wn_139, vn_140, rfl, N137q, K137, u137_0, f137_0, f137_1, f137_2, f137_3, f137_4, f137_5, f137_6, f137_7, f137_8⟩ := hQ137
                have N137 := Fr.app N129 N137q
                have Z141 : n0 ≤ T137.heap.size := Nat.le_trans Z133 K137.1
                have pre142 : ∀ tZ, Steps p.tables e below (T137.setTop (mkF m 121 #[.val (.int p0), .val (.int p1), .val (.int p2), .val (.int sz), .val (.int kv), .val (.int (own_b (¬ ((p2 &&& (2 : Int32)) = (0 : Int32))))), .val (.ref b9), .unset] [(.int (5 : Int32)), (.int kv)])) tZ → Steps p.tables e below (s₁.setTop (entryFrame m #[(.int p0), (.int p1), (.int p2)] maxLocals)) tZ := fun tZ kZ => pre134 tZ (by
                  show Steps p.tables e below (T129.setTop (mkF m 110 #[.val (.int p0), .val (.int p1), .val (.int p2), .val (.int sz), .val (.int kv), .val (.int (own_b (¬ ((p2 &&& (2 : Int32)) = (0 : Int32))))), .val (.ref b9), .unset] [(.int (4 : Int32)), (.int kv)])) _
                  refine XS.icmpNo X129.here hx rfl (hb hby at_110) rfl (tlt hc135).2.2.2 ?_
                  show Steps p.tables e below (T129.setTop (mkF m 113 #[.val (.int p0), .val (.int p1), .val (.int p2), .val (.int sz), .val (.int kv), .val (.int (own_b (¬ ((p2 &&& (2 : Int32)) = (0 : Int32))))), .val (.ref b9), .unset] [])) _
                  refine XS.aload X129.here hx rfl (hb hby at_113) rfl rfl ?_
                  show Steps p.tables e below (T129.setTop (mkF m 115 #[.val (.int p0), .val (.int p1), .val (.int p2), .val (.int sz), .val (.int kv), .val (.int (own_b (¬ ((p2 &&& (2 : Int32)) = (0 : Int32))))), .val (.ref b9), .unset] [(.ref b9)])) _
                  refine st137.trans ?_
                  show Steps p.tables e below (T137.setTop (mkF m 118 #[.val (.int p0), .val (.int p1), .val (.int p2), .val (.int sz), .val (.int kv), .val (.int (own_b (¬ ((p2 &&& (2 : Int32)) = (0 : Int32))))), .val (.ref b9), .unset] [])) _
                  refine XS.iload X137.here hx rfl (hb hby at_118) rfl  ?_
                  show Steps p.tables e below (T137.setTop (mkF m 120 #[.val (.int p0), .val (.int p1), .val (.int p2), .val (.int sz), .val (.int kv), .val (.int (own_b (¬ ((p2 &&& (2 : Int32)) = (0 : Int32))))), .val (.ref b9), .unset] [(.int kv)])) _
                  refine XS.iconst X137.here hx rfl (hb hby at_120) ?_
                  exact kZ)
                by_cases hc143 : (5 : Int32) < kv
                ·  -- yes
                  have fa144 : Old Z n0 T137.heap := (fa136.keep K137 (allS (P := fun x => n0 ≤ x) gn_b9 (allS (P := fun x => n0 ≤ x) u11_0 (allS (P := fun x => n0 ≤ x) u11_2 all0))))
                  obtain ⟨cq145, kq145, q145a, q145b, q145c⟩ := isOf hZ rfl f137_0
                  obtain ⟨_, _, ⟨T145, L145, k145, n145⟩, -, X145, ⟨Lc145, hQ145, l145, y145, z145⟩, st145⟩ := X137.virtualBack hx (y := (⟨oE, "take", "()V"⟩ : MethodName)) (z := (⟨oE, "take", "()V"⟩ : MethodName)) hown (mvT hZ (ow hw 40 rfl)) (mvT hZ (ow hw 41 rfl)) (notFace_of_selects (args := #[]) (mvT hZ (ow hw 43 rfl))) (mvT hZ (ow hw 43 rfl)) (mvT hZ (ow hw 42 rfl)) (by decide) (backOf (W := 0) (rm7 l Z a0 hw [] b9 b_12 sz ((((((0 : Int64) + (1 : Int64)) + (1 : Int64)) + (1 : Int64)) + (1 : Int64)) + (1 : Int64)) mn_138 wa_13 kl_14 wn_139 vn_140 T137.heap n0 Z141 f137_0 f137_1 f137_2 f137_3 f137_4 f137_5 f137_6 f137_7 f137_8 hsz (by decide) (by decide) (by first | assumption | decide) S1 fa144 gn_b9 ne16 ne17 u11_0 u11_2 u11_4) hZ (ow hw 44 rfl) (ow hw 7 rfl) (by decide) (by decide)) q145a q145c (g := (mkF m 126 #[.val (.int p0), .val (.int p1), .val (.int p2), .val (.int sz), .val (.int kv), .val (.int (own_b (¬ ((p2 &&& (2 : Int32)) = (0 : Int32))))), .val (.ref b9), .unset] [(.ref b9)])) rfl (by rw [hml]; rfl) (Steps.refl _) (argsL := []) (rest := []) (lenOf pd4 rfl) rfl (by show 2 * 0 + _ ≤ _; exact Nat.le_of_eq rfl) (hb hby at_126) (fun _ _ => ⟨rfl, rfl, (by decide : 3 + 0 ≤ _), (by decide : 8 + 0 ≤ _)⟩)
                  dsimp only [Pt.U, Pt.locs, Pt.cells, Pt.slots] at X145 l145 y145 z145 st145 hQ145
                  subst l145 y145 z145
                  obtain ⟨mn_146, wn_147, vn_148, rfl, N145q, K145, u145_0, f145_0, f145_1, f145_2, f145_3, f145_4, f145_5, f145_6, f145_7, f145_8⟩ := hQ145
                  have N145 := Fr.app N137 N145q
                  have Z149 : n0 ≤ T145.heap.size := Nat.le_trans Z141 K145.1
                  have pre150 : ∀ tZ, Steps p.tables e below (T145.setTop (mkF m 133 #[.val (.int p0), .val (.int p1), .val (.int p2), .val (.int sz), .val (.int kv), .val (.int (own_b (¬ ((p2 &&& (2 : Int32)) = (0 : Int32))))), .val (.ref b9), .unset] [(.int (6 : Int32)), (.int kv)])) tZ → Steps p.tables e below (s₁.setTop (entryFrame m #[(.int p0), (.int p1), (.int p2)] maxLocals)) tZ := fun tZ kZ => pre142 tZ (by
                    show Steps p.tables e below (T137.setTop (mkF m 121 #[.val (.int p0), .val (.int p1), .val (.int p2), .val (.int sz), .val (.int kv), .val (.int (own_b (¬ ((p2 &&& (2 : Int32)) = (0 : Int32))))), .val (.ref b9), .unset] [(.int (5 : Int32)), (.int kv)])) _
                    refine XS.icmpNo X137.here hx rfl (hb hby at_121) rfl (tlt hc143).2.2.2 ?_
                    show Steps p.tables e below (T137.setTop (mkF m 124 #[.val (.int p0), .val (.int p1), .val (.int p2), .val (.int sz), .val (.int kv), .val (.int (own_b (¬ ((p2 &&& (2 : Int32)) = (0 : Int32))))), .val (.ref b9), .unset] [])) _
                    refine XS.aload X137.here hx rfl (hb hby at_124) rfl rfl ?_
                    show Steps p.tables e below (T137.setTop (mkF m 126 #[.val (.int p0), .val (.int p1), .val (.int p2), .val (.int sz), .val (.int kv), .val (.int (own_b (¬ ((p2 &&& (2 : Int32)) = (0 : Int32))))), .val (.ref b9), .unset] [(.ref b9)])) _
                    refine st145.trans ?_
                    show Steps p.tables e below (T145.setTop (mkF m 129 #[.val (.int p0), .val (.int p1), .val (.int p2), .val (.int sz), .val (.int kv), .val (.int (own_b (¬ ((p2 &&& (2 : Int32)) = (0 : Int32))))), .val (.ref b9), .unset] [])) _
                    refine XS.iload X145.here hx rfl (hb hby at_129) rfl  ?_
                    show Steps p.tables e below (T145.setTop (mkF m 131 #[.val (.int p0), .val (.int p1), .val (.int p2), .val (.int sz), .val (.int kv), .val (.int (own_b (¬ ((p2 &&& (2 : Int32)) = (0 : Int32))))), .val (.ref b9), .unset] [(.int kv)])) _
                    refine XS.bipush X145.here hx rfl (hb hby at_131) ?_
                    exact kZ)
                  by_cases hc151 : (6 : Int32) < kv
                  ·  -- yes
                    have fa152 : Old Z n0 T145.heap := (fa144.keep K145 (allS (P := fun x => n0 ≤ x) gn_b9 (allS (P := fun x => n0 ≤ x) u11_0 (allS (P := fun x => n0 ≤ x) u11_2 all0))))
                    obtain ⟨cq153, kq153, q153a, q153b, q153c⟩ := isOf hZ rfl f145_0
                    obtain ⟨_, _, ⟨T153, L153, k153, n153⟩, -, X153, ⟨Lc153, hQ153, l153, y153, z153⟩, st153⟩ := X145.virtualBack hx (y := (⟨oE, "take", "()V"⟩ : MethodName)) (z := (⟨oE, "take", "()V"⟩ : MethodName)) hown (mvT hZ (ow hw 40 rfl)) (mvT hZ (ow hw 41 rfl)) (notFace_of_selects (args := #[]) (mvT hZ (ow hw 43 rfl))) (mvT hZ (ow hw 43 rfl)) (mvT hZ (ow hw 42 rfl)) (by decide) (backOf (W := 0) (rm7 l Z a0 hw [] b9 b_12 sz (((((((0 : Int64) + (1 : Int64)) + (1 : Int64)) + (1 : Int64)) + (1 : Int64)) + (1 : Int64)) + (1 : Int64)) mn_146 wa_13 kl_14 wn_147 vn_148 T145.heap n0 Z149 f145_0 f145_1 f145_2 f145_3 f145_4 f145_5 f145_6 f145_7 f145_8 hsz (by decide) (by decide) (by first | assumption | decide) S1 fa152 gn_b9 ne16 ne17 u11_0 u11_2 u11_4) hZ (ow hw 44 rfl) (ow hw 7 rfl) (by decide) (by decide)) q153a q153c (g := (mkF m 138 #[.val (.int p0), .val (.int p1), .val (.int p2), .val (.int sz), .val (.int kv), .val (.int (own_b (¬ ((p2 &&& (2 : Int32)) = (0 : Int32))))), .val (.ref b9), .unset] [(.ref b9)])) rfl (by rw [hml]; rfl) (Steps.refl _) (argsL := []) (rest := []) (lenOf pd4 rfl) rfl (by show 2 * 0 + _ ≤ _; exact Nat.le_of_eq rfl) (hb hby at_138) (fun _ _ => ⟨rfl, rfl, (by decide : 3 + 0 ≤ _), (by decide : 8 + 0 ≤ _)⟩)
                    dsimp only [Pt.U, Pt.locs, Pt.cells, Pt.slots] at X153 l153 y153 z153 st153 hQ153
                    subst l153 y153 z153
                    obtain ⟨mn_154, wn_155, vn_156, rfl, N153q, K153, u153_0, f153_0, f153_1, f153_2, f153_3, f153_4, f153_5, f153_6, f153_7, f153_8⟩ := hQ153
                    have N153 := Fr.app N145 N153q
                    have Z157 : n0 ≤ T153.heap.size := Nat.le_trans Z149 K153.1
                    have pre158 : ∀ tZ, Steps p.tables e below (T153.setTop (mkF m 144 #[.val (.int p0), .val (.int p1), .val (.int p2), .val (.int sz), .val (.int kv), .val (.int (own_b (¬ ((p2 &&& (2 : Int32)) = (0 : Int32))))), .val (.ref b9), .unset] [(.int sz), (.int kv)])) tZ → Steps p.tables e below (s₁.setTop (entryFrame m #[(.int p0), (.int p1), (.int p2)] maxLocals)) tZ := fun tZ kZ => pre150 tZ (by
                      show Steps p.tables e below (T145.setTop (mkF m 133 #[.val (.int p0), .val (.int p1), .val (.int p2), .val (.int sz), .val (.int kv), .val (.int (own_b (¬ ((p2 &&& (2 : Int32)) = (0 : Int32))))), .val (.ref b9), .unset] [(.int (6 : Int32)), (.int kv)])) _
                      refine XS.icmpNo X145.here hx rfl (hb hby at_133) rfl (tlt hc151).2.2.2 ?_
                      show Steps p.tables e below (T145.setTop (mkF m 136 #[.val (.int p0), .val (.int p1), .val (.int p2), .val (.int sz), .val (.int kv), .val (.int (own_b (¬ ((p2 &&& (2 : Int32)) = (0 : Int32))))), .val (.ref b9), .unset] [])) _
                      refine XS.aload X145.here hx rfl (hb hby at_136) rfl rfl ?_
                      show Steps p.tables e below (T145.setTop (mkF m 138 #[.val (.int p0), .val (.int p1), .val (.int p2), .val (.int sz), .val (.int kv), .val (.int (own_b (¬ ((p2 &&& (2 : Int32)) = (0 : Int32))))), .val (.ref b9), .unset] [(.ref b9)])) _
                      refine st153.trans ?_
                      show Steps p.tables e below (T153.setTop (mkF m 141 #[.val (.int p0), .val (.int p1), .val (.int p2), .val (.int sz), .val (.int kv), .val (.int (own_b (¬ ((p2 &&& (2 : Int32)) = (0 : Int32))))), .val (.ref b9), .unset] [])) _
                      refine XS.iload X153.here hx rfl (hb hby at_141) rfl  ?_
                      show Steps p.tables e below (T153.setTop (mkF m 143 #[.val (.int p0), .val (.int p1), .val (.int p2), .val (.int sz), .val (.int kv), .val (.int (own_b (¬ ((p2 &&& (2 : Int32)) = (0 : Int32))))), .val (.ref b9), .unset] [(.int kv)])) _
                      refine XS.iloadN X153.here hx rfl (hb hby at_143) rfl  ?_
                      exact kZ)
                    have pre160 : ∀ tZ, Steps p.tables e below (T153.setTop (mkF m 152 #[.val (.int p0), .val (.int p1), .val (.int p2), .val (.int sz), .val (.int kv), .val (.int (own_b (¬ ((p2 &&& (2 : Int32)) = (0 : Int32))))), .val (.ref b9), .unset] [(.int (own_b (¬ (kv < sz))))])) tZ → Steps p.tables e below (s₁.setTop (entryFrame m #[(.int p0), (.int p1), (.int p2)] maxLocals)) tZ := fun tZ kZ => pre158 tZ (by
                      by_cases hc159 : kv < sz
                      ·  -- yes
                        show Steps p.tables e below (T153.setTop (mkF m 144 #[.val (.int p0), .val (.int p1), .val (.int p2), .val (.int sz), .val (.int kv), .val (.int (own_b (¬ ((p2 &&& (2 : Int32)) = (0 : Int32))))), .val (.ref b9), .unset] [(.int sz), (.int kv)])) _
                        refine XS.icmpYes X153.here hx rfl (pc0 := 144) (pc' := 151) rfl (hb hby at_144) rfl (tlt hc159).1 (by decide) (by decide) ?_
                        show Steps p.tables e below (T153.setTop (mkF m 151 #[.val (.int p0), .val (.int p1), .val (.int p2), .val (.int sz), .val (.int kv), .val (.int (own_b (¬ ((p2 &&& (2 : Int32)) = (0 : Int32))))), .val (.ref b9), .unset] [])) _
                        refine XS.iconst X153.here hx rfl (hb hby at_151) ?_
                        have ekZ : (own_b (¬ (kv < sz))) = (0 : Int32) := by first | (simp only [own_b, eq_true hc159, and_true, true_and, and_false, false_and, or_true, true_or, or_false, false_or, not_true_eq_false, not_false_eq_true, if_true, if_false, reduceIte]; done) | (simp [own_b, hc159]; done)
                        rw [ekZ] at kZ
                        exact kZ
                      ·  -- no
                        show Steps p.tables e below (T153.setTop (mkF m 144 #[.val (.int p0), .val (.int p1), .val (.int p2), .val (.int sz), .val (.int kv), .val (.int (own_b (¬ ((p2 &&& (2 : Int32)) = (0 : Int32))))), .val (.ref b9), .unset] [(.int sz), (.int kv)])) _
                        refine XS.icmpNo X153.here hx rfl (hb hby at_144) rfl (flt hc159).1 ?_
                        show Steps p.tables e below (T153.setTop (mkF m 147 #[.val (.int p0), .val (.int p1), .val (.int p2), .val (.int sz), .val (.int kv), .val (.int (own_b (¬ ((p2 &&& (2 : Int32)) = (0 : Int32))))), .val (.ref b9), .unset] [])) _
                        refine XS.iconst X153.here hx rfl (hb hby at_147) ?_
                        show Steps p.tables e below (T153.setTop (mkF m 148 #[.val (.int p0), .val (.int p1), .val (.int p2), .val (.int sz), .val (.int kv), .val (.int (own_b (¬ ((p2 &&& (2 : Int32)) = (0 : Int32))))), .val (.ref b9), .unset] [(.int (1 : Int32))])) _
                        refine XS.goto X153.here hx rfl (pc0 := 148) (pc' := 152) rfl (hb hby at_148) (by decide) (by decide) ?_
                        have ekZ : (own_b (¬ (kv < sz))) = (1 : Int32) := by first | (simp only [own_b, eq_false hc159, and_true, true_and, and_false, false_and, or_true, true_or, or_false, false_or, not_true_eq_false, not_false_eq_true, if_true, if_false, reduceIte]; done) | (simp [own_b, hc159]; done)
                        rw [ekZ] at kZ
                        exact kZ)
                    obtain ⟨cq161, kq161, q161a, q161b, q161c⟩ := isOf hZ rfl f153_0
                    obtain ⟨_, _, ⟨T161, L161, k161, n161⟩, -, X161, ⟨Lc161, hQ161, l161, y161, z161⟩, st161⟩ := X153.virtualBack hx (y := (⟨oE, "full", "()Z"⟩ : MethodName)) (z := (⟨oE, "full", "()Z"⟩ : MethodName)) hown (mvT hZ (ow hw 91 rfl)) (mvT hZ (ow hw 92 rfl)) (notFace_of_selects (args := #[]) (mvT hZ (ow hw 94 rfl))) (mvT hZ (ow hw 94 rfl)) (mvT hZ (ow hw 93 rfl)) (by decide) (backOf (W := 0) (rm16 l Z a0 hw [] b9 sz ((((((((0 : Int64) + (1 : Int64)) + (1 : Int64)) + (1 : Int64)) + (1 : Int64)) + (1 : Int64)) + (1 : Int64)) + (1 : Int64)) T153.heap n0 Z157 f153_2 f153_3) hZ (ow hw 95 rfl) (ow hw 7 rfl) (by decide) (by decide)) q161a q161c (g := (mkF m 156 #[.val (.int p0), .val (.int p1), .val (.int p2), .val (.int sz), .val (.int kv), .val (.int (own_b (¬ ((p2 &&& (2 : Int32)) = (0 : Int32))))), .val (.ref b9), .val (.int (own_b (¬ (kv < sz))))] [(.ref b9)])) rfl (by rw [hml]; rfl) (Steps.refl _) (argsL := []) (rest := []) (lenOf pd8 rfl) rfl (by show 2 * 0 + _ ≤ _; exact Nat.le_of_eq rfl) (hb hby at_156) (fun _ _ => ⟨rfl, rfl, (by decide : 3 + 0 ≤ _), (by decide : 8 + 0 ≤ _)⟩)
                    dsimp only [Pt.U, Pt.locs, Pt.cells, Pt.slots] at X161 l161 y161 z161 st161 hQ161
                    subst l161 y161 z161
                    obtain ⟨rfl, N161q, e161⟩ := hQ161
                    have N161 := Fr.app N153 N161q
                    obtain ⟨fsZ, hrZ, hrun, hended, hW, hsame⟩ := X161.leave (v := some (.int (1 : Int32))) (fun h => by rw [Bd.returns] at h; cases h)
                    refine ⟨_, _, pre160 _ ?_, hrun, hended, _, _, rfl, ?_, ⟨_, rfl⟩, hW, hsame.mono (by decide) (by decide)⟩
                    · show Steps p.tables e below (T153.setTop (mkF m 152 #[.val (.int p0), .val (.int p1), .val (.int p2), .val (.int sz), .val (.int kv), .val (.int (own_b (¬ ((p2 &&& (2 : Int32)) = (0 : Int32))))), .val (.ref b9), .unset] [(.int (own_b (¬ (kv < sz))))])) _
                      refine XS.istore X153.here hx rfl (hb hby at_152) rfl (l' := #[.val (.int p0), .val (.int p1), .val (.int p2), .val (.int sz), .val (.int kv), .val (.int (own_b (¬ ((p2 &&& (2 : Int32)) = (0 : Int32))))), .val (.ref b9), .val (.int (own_b (¬ (kv < sz))))]) rfl ?_
                      show Steps p.tables e below (T153.setTop (mkF m 154 #[.val (.int p0), .val (.int p1), .val (.int p2), .val (.int sz), .val (.int kv), .val (.int (own_b (¬ ((p2 &&& (2 : Int32)) = (0 : Int32))))), .val (.ref b9), .val (.int (own_b (¬ (kv < sz))))] [])) _
                      refine XS.aload X153.here hx rfl (hb hby at_154) rfl rfl ?_
                      show Steps p.tables e below (T153.setTop (mkF m 156 #[.val (.int p0), .val (.int p1), .val (.int p2), .val (.int sz), .val (.int kv), .val (.int (own_b (¬ ((p2 &&& (2 : Int32)) = (0 : Int32))))), .val (.ref b9), .val (.int (own_b (¬ (kv < sz))))] [(.ref b9)])) _
                      refine st161.trans ?_
                      show Steps p.tables e below (T161.setTop (mkF m 159 #[.val (.int p0), .val (.int p1), .val (.int p2), .val (.int sz), .val (.int kv), .val (.int (own_b (¬ ((p2 &&& (2 : Int32)) = (0 : Int32))))), .val (.ref b9), .val (.int (own_b (¬ (kv < sz))))] [(.int (own_b (¬ (((((((((0 : Int64) + (1 : Int64)) + (1 : Int64)) + (1 : Int64)) + (1 : Int64)) + (1 : Int64)) + (1 : Int64)) + (1 : Int64)) < (sz.toInt64)))))])) _
                      refine XS.iload X161.here hx rfl (hb hby at_159) rfl  ?_
                      show Steps p.tables e below (T161.setTop (mkF m 161 #[.val (.int p0), .val (.int p1), .val (.int p2), .val (.int sz), .val (.int kv), .val (.int (own_b (¬ ((p2 &&& (2 : Int32)) = (0 : Int32))))), .val (.ref b9), .val (.int (own_b (¬ (kv < sz))))] [(.int (own_b (¬ (kv < sz)))), (.int (own_b (¬ (((((((((0 : Int64) + (1 : Int64)) + (1 : Int64)) + (1 : Int64)) + (1 : Int64)) + (1 : Int64)) + (1 : Int64)) + (1 : Int64)) < (sz.toInt64)))))])) _
                      refine XS.icmpNo X161.here hx rfl (hb hby at_161) rfl (teq (own_fin 7 hsz (by decide) (own_eqk 7 (hc151) (own_k7 hkv) (by decide) (by decide)))).2 ?_
                      show Steps p.tables e below (T161.setTop (mkF m 164 #[.val (.int p0), .val (.int p1), .val (.int p2), .val (.int sz), .val (.int kv), .val (.int (own_b (¬ ((p2 &&& (2 : Int32)) = (0 : Int32))))), .val (.ref b9), .val (.int (own_b (¬ (kv < sz))))] [])) _
                      refine XS.iconst X161.here hx rfl (hb hby at_164) ?_
                      show Steps p.tables e below (T161.setTop (mkF m 165 #[.val (.int p0), .val (.int p1), .val (.int p2), .val (.int sz), .val (.int kv), .val (.int (own_b (¬ ((p2 &&& (2 : Int32)) = (0 : Int32))))), .val (.ref b9), .val (.int (own_b (¬ (kv < sz))))] [(.int (1 : Int32))])) _
                      refine XS.goto X161.here hx rfl (pc0 := 165) (pc' := 169) rfl (hb hby at_165) (by decide) (by decide) ?_
                      show Steps p.tables e below (T161.setTop (mkF m 169 #[.val (.int p0), .val (.int p1), .val (.int p2), .val (.int sz), .val (.int kv), .val (.int (own_b (¬ ((p2 &&& (2 : Int32)) = (0 : Int32))))), .val (.ref b9), .val (.int (own_b (¬ (kv < sz))))] [(.int (1 : Int32))])) _
                      exact retN X161 hx (t := .boolean) Bd.returns (by simp) (hb hby at_169) hrZ
                    · show Q0 Z p0 p1 p2 h0 n0 _ T161.heap _
                      rw [e161]
                      exact ⟨rfl, N161⟩
                  ·  -- no
                    have pre162 : ∀ tZ, Steps p.tables e below (T145.setTop (mkF m 144 #[.val (.int p0), .val (.int p1), .val (.int p2), .val (.int sz), .val (.int kv), .val (.int (own_b (¬ ((p2 &&& (2 : Int32)) = (0 : Int32))))), .val (.ref b9), .unset] [(.int sz), (.int kv)])) tZ → Steps p.tables e below (s₁.setTop (entryFrame m #[(.int p0), (.int p1), (.int p2)] maxLocals)) tZ := fun tZ kZ => pre150 tZ (by
                      show Steps p.tables e below (T145.setTop (mkF m 133 #[.val (.int p0), .val (.int p1), .val (.int p2), .val (.int sz), .val (.int kv), .val (.int (own_b (¬ ((p2 &&& (2 : Int32)) = (0 : Int32))))), .val (.ref b9), .unset] [(.int (6 : Int32)), (.int kv)])) _
                      refine XS.icmpYes X145.here hx rfl (pc0 := 133) (pc' := 141) rfl (hb hby at_133) rfl (flt hc151).2.2.2 (by decide) (by decide) ?_
                      show Steps p.tables e below (T145.setTop (mkF m 141 #[.val (.int p0), .val (.int p1), .val (.int p2), .val (.int sz), .val (.int kv), .val (.int (own_b (¬ ((p2 &&& (2 : Int32)) = (0 : Int32))))), .val (.ref b9), .unset] [])) _
                      refine XS.iload X145.here hx rfl (hb hby at_141) rfl  ?_
                      show Steps p.tables e below (T145.setTop (mkF m 143 #[.val (.int p0), .val (.int p1), .val (.int p2), .val (.int sz), .val (.int kv), .val (.int (own_b (¬ ((p2 &&& (2 : Int32)) = (0 : Int32))))), .val (.ref b9), .unset] [(.int kv)])) _
                      refine XS.iloadN X145.here hx rfl (hb hby at_143) rfl  ?_
                      exact kZ)
                    have pre164 : ∀ tZ, Steps p.tables e below (T145.setTop (mkF m 152 #[.val (.int p0), .val (.int p1), .val (.int p2), .val (.int sz), .val (.int kv), .val (.int (own_b (¬ ((p2 &&& (2 : Int32)) = (0 : Int32))))), .val (.ref b9), .unset] [(.int (own_b (¬ (kv < sz))))])) tZ → Steps p.tables e below (s₁.setTop (entryFrame m #[(.int p0), (.int p1), (.int p2)] maxLocals)) tZ := fun tZ kZ => pre162 tZ (by
                      by_cases hc163 : kv < sz
                      ·  -- yes
                        show Steps p.tables e below (T145.setTop (mkF m 144 #[.val (.int p0), .val (.int p1), .val (.int p2), .val (.int sz), .val (.int kv), .val (.int (own_b (¬ ((p2 &&& (2 : Int32)) = (0 : Int32))))), .val (.ref b9), .unset] [(.int sz), (.int kv)])) _
                        refine XS.icmpYes X145.here hx rfl (pc0 := 144) (pc' := 151) rfl (hb hby at_144) rfl (tlt hc163).1 (by decide) (by decide) ?_
                        show Steps p.tables e below (T145.setTop (mkF m 151 #[.val (.int p0), .val (.int p1), .val (.int p2), .val (.int sz), .val (.int kv), .val (.int (own_b (¬ ((p2 &&& (2 : Int32)) = (0 : Int32))))), .val (.ref b9), .unset] [])) _
                        refine XS.iconst X145.here hx rfl (hb hby at_151) ?_
                        have ekZ : (own_b (¬ (kv < sz))) = (0 : Int32) := by first | (simp only [own_b, eq_true hc163, and_true, true_and, and_false, false_and, or_true, true_or, or_false, false_or, not_true_eq_false, not_false_eq_true, if_true, if_false, reduceIte]; done) | (simp [own_b, hc163]; done)
                        rw [ekZ] at kZ
                        exact kZ
                      ·  -- no
                        show Steps p.tables e below (T145.setTop (mkF m 144 #[.val (.int p0), .val (.int p1), .val (.int p2), .val (.int sz), .val (.int kv), .val (.int (own_b (¬ ((p2 &&& (2 : Int32)) = (0 : Int32))))), .val (.ref b9), .unset] [(.int sz), (.int kv)])) _
                        refine XS.icmpNo X145.here hx rfl (hb hby at_144) rfl (flt hc163).1 ?_
                        show Steps p.tables e below (T145.setTop (mkF m 147 #[.val (.int p0), .val (.int p1), .val (.int p2), .val (.int sz), .val (.int kv), .val (.int (own_b (¬ ((p2 &&& (2 : Int32)) = (0 : Int32))))), .val (.ref b9), .unset] [])) _
                        refine XS.iconst X145.here hx rfl (hb hby at_147) ?_
                        show Steps p.tables e below (T145.setTop (mkF m 148 #[.val (.int p0), .val (.int p1), .val (.int p2), .val (.int sz), .val (.int kv), .val (.int (own_b (¬ ((p2 &&& (2 : Int32)) = (0 : Int32))))), .val (.ref b9), .unset] [(.int (1 : Int32))])) _
                        refine XS.goto X145.here hx rfl (pc0 := 148) (pc' := 152) rfl (hb hby at_148) (by decide) (by decide) ?_
                        have ekZ : (own_b (¬ (kv < sz))) = (1 : Int32) := by first | (simp only [own_b, eq_false hc163, and_true, true_and, and_false, false_and, or_true, true_or, or_false, false_or, not_true_eq_false, not_false_eq_true, if_true, if_false, reduceIte]; done) | (simp [own_b, hc163]; done)
                        rw [ekZ] at kZ
                        exact kZ)
                    obtain ⟨cq165, kq165, q165a, q165b, q165c⟩ := isOf hZ rfl f145_0
                    obtain ⟨_, _, ⟨T165, L165, k165, n165⟩, -, X165, ⟨Lc165, hQ165, l165, y165, z165⟩, st165⟩ := X145.virtualBack hx (y := (⟨oE, "full", "()Z"⟩ : MethodName)) (z := (⟨oE, "full", "()Z"⟩ : MethodName)) hown (mvT hZ (ow hw 91 rfl)) (mvT hZ (ow hw 92 rfl)) (notFace_of_selects (args := #[]) (mvT hZ (ow hw 94 rfl))) (mvT hZ (ow hw 94 rfl)) (mvT hZ (ow hw 93 rfl)) (by decide) (backOf (W := 0) (rm16 l Z a0 hw [] b9 sz (((((((0 : Int64) + (1 : Int64)) + (1 : Int64)) + (1 : Int64)) + (1 : Int64)) + (1 : Int64)) + (1 : Int64)) T145.heap n0 Z149 f145_2 f145_3) hZ (ow hw 95 rfl) (ow hw 7 rfl) (by decide) (by decide)) q165a q165c (g := (mkF m 156 #[.val (.int p0), .val (.int p1), .val (.int p2), .val (.int sz), .val (.int kv), .val (.int (own_b (¬ ((p2 &&& (2 : Int32)) = (0 : Int32))))), .val (.ref b9), .val (.int (own_b (¬ (kv < sz))))] [(.ref b9)])) rfl (by rw [hml]; rfl) (Steps.refl _) (argsL := []) (rest := []) (lenOf pd8 rfl) rfl (by show 2 * 0 + _ ≤ _; exact Nat.le_of_eq rfl) (hb hby at_156) (fun _ _ => ⟨rfl, rfl, (by decide : 3 + 0 ≤ _), (by decide : 8 + 0 ≤ _)⟩)
                    dsimp only [Pt.U, Pt.locs, Pt.cells, Pt.slots] at X165 l165 y165 z165 st165 hQ165
                    subst l165 y165 z165
                    obtain ⟨rfl, N165q, e165⟩ := hQ165
                    have N165 := Fr.app N145 N165q
                    obtain ⟨fsZ, hrZ, hrun, hended, hW, hsame⟩ := X165.leave (v := some (.int (1 : Int32))) (fun h => by rw [Bd.returns] at h; cases h)
                    refine ⟨_, _, pre164 _ ?_, hrun, hended, _, _, rfl, ?_, ⟨_, rfl⟩, hW, hsame.mono (by decide) (by decide)⟩
                    · show Steps p.tables e below (T145.setTop (mkF m 152 #[.val (.int p0), .val (.int p1), .val (.int p2), .val (.int sz), .val (.int kv), .val (.int (own_b (¬ ((p2 &&& (2 : Int32)) = (0 : Int32))))), .val (.ref b9), .unset] [(.int (own_b (¬ (kv < sz))))])) _
                      refine XS.istore X145.here hx rfl (hb hby at_152) rfl (l' := #[.val (.int p0), .val (.int p1), .val (.int p2), .val (.int sz), .val (.int kv), .val (.int (own_b (¬ ((p2 &&& (2 : Int32)) = (0 : Int32))))), .val (.ref b9), .val (.int (own_b (¬ (kv < sz))))]) rfl ?_
                      show Steps p.tables e below (T145.setTop (mkF m 154 #[.val (.int p0), .val (.int p1), .val (.int p2), .val (.int sz), .val (.int kv), .val (.int (own_b (¬ ((p2 &&& (2 : Int32)) = (0 : Int32))))), .val (.ref b9), .val (.int (own_b (¬ (kv < sz))))] [])) _
                      refine XS.aload X145.here hx rfl (hb hby at_154) rfl rfl ?_
                      show Steps p.tables e below (T145.setTop (mkF m 156 #[.val (.int p0), .val (.int p1), .val (.int p2), .val (.int sz), .val (.int kv), .val (.int (own_b (¬ ((p2 &&& (2 : Int32)) = (0 : Int32))))), .val (.ref b9), .val (.int (own_b (¬ (kv < sz))))] [(.ref b9)])) _
                      refine st165.trans ?_
                      show Steps p.tables e below (T165.setTop (mkF m 159 #[.val (.int p0), .val (.int p1), .val (.int p2), .val (.int sz), .val (.int kv), .val (.int (own_b (¬ ((p2 &&& (2 : Int32)) = (0 : Int32))))), .val (.ref b9), .val (.int (own_b (¬ (kv < sz))))] [(.int (own_b (¬ ((((((((0 : Int64) + (1 : Int64)) + (1 : Int64)) + (1 : Int64)) + (1 : Int64)) + (1 : Int64)) + (1 : Int64)) < (sz.toInt64)))))])) _
                      refine XS.iload X165.here hx rfl (hb hby at_159) rfl  ?_
                      show Steps p.tables e below (T165.setTop (mkF m 161 #[.val (.int p0), .val (.int p1), .val (.int p2), .val (.int sz), .val (.int kv), .val (.int (own_b (¬ ((p2 &&& (2 : Int32)) = (0 : Int32))))), .val (.ref b9), .val (.int (own_b (¬ (kv < sz))))] [(.int (own_b (¬ (kv < sz)))), (.int (own_b (¬ ((((((((0 : Int64) + (1 : Int64)) + (1 : Int64)) + (1 : Int64)) + (1 : Int64)) + (1 : Int64)) + (1 : Int64)) < (sz.toInt64)))))])) _
                      refine XS.icmpNo X165.here hx rfl (hb hby at_161) rfl (teq (own_fin 6 hsz (by decide) (own_eqk 6 (hc143) hc151 (by decide) (by decide)))).2 ?_
                      show Steps p.tables e below (T165.setTop (mkF m 164 #[.val (.int p0), .val (.int p1), .val (.int p2), .val (.int sz), .val (.int kv), .val (.int (own_b (¬ ((p2 &&& (2 : Int32)) = (0 : Int32))))), .val (.ref b9), .val (.int (own_b (¬ (kv < sz))))] [])) _
                      refine XS.iconst X165.here hx rfl (hb hby at_164) ?_
                      show Steps p.tables e below (T165.setTop (mkF m 165 #[.val (.int p0), .val (.int p1), .val (.int p2), .val (.int sz), .val (.int kv), .val (.int (own_b (¬ ((p2 &&& (2 : Int32)) = (0 : Int32))))), .val (.ref b9), .val (.int (own_b (¬ (kv < sz))))] [(.int (1 : Int32))])) _
                      refine XS.goto X165.here hx rfl (pc0 := 165) (pc' := 169) rfl (hb hby at_165) (by decide) (by decide) ?_
                      show Steps p.tables e below (T165.setTop (mkF m 169 #[.val (.int p0), .val (.int p1), .val (.int p2), .val (.int sz), .val (.int kv), .val (.int (own_b (¬ ((p2 &&& (2 : Int32)) = (0 : Int32))))), .val (.ref b9), .val (.int (own_b (¬ (kv < sz))))] [(.int (1 : Int32))])) _
                      exact retN X165 hx (t := .boolean) Bd.returns (by simp) (hb hby at_169) hrZ
                    · show Q0 Z p0 p1 p2 h0 n0 _ T165.heap _
                      rw [e165]
                      exact ⟨rfl, N165⟩
                ·  -- no
                  have pre166 : ∀ tZ, Steps p.tables e below (T137.setTop (mkF m 144 #[.val (.int p0), .val (.int p1), .val (.int p2), .val (.int sz), .val (.int kv), .val (.int (own_b (¬ ((p2 &&& (2 : Int32)) = (0 : Int32))))), .val (.ref b9), .unset] [(.int sz), (.int kv)])) tZ → Steps p.tables e below (s₁.setTop (entryFrame m #[(.int p0), (.int p1), (.int p2)] maxLocals)) tZ := fun tZ kZ => pre142 tZ (by
                    show Steps p.tables e below (T137.setTop (mkF m 121 #[.val (.int p0), .val (.int p1), .val (.int p2), .val (.int sz), .val (.int kv), .val (.int (own_b (¬ ((p2 &&& (2 : Int32)) = (0 : Int32))))), .val (.ref b9), .unset] [(.int (5 : Int32)), (.int kv)])) _
                    refine XS.icmpYes X137.here hx rfl (pc0 := 121) (pc' := 129) rfl (hb hby at_121) rfl (flt hc143).2.2.2 (by decide) (by decide) ?_
                    show Steps p.tables e below (T137.setTop (mkF m 129 #[.val (.int p0), .val (.int p1), .val (.int p2), .val (.int sz), .val (.int kv), .val (.int (own_b (¬ ((p2 &&& (2 : Int32)) = (0 : Int32))))), .val (.ref b9), .unset] [])) _
                    refine XS.iload X137.here hx rfl (hb hby at_129) rfl  ?_
                    show Steps p.tables e below (T137.setTop (mkF m 131 #[.val (.int p0), .val (.int p1), .val (.int p2), .val (.int sz), .val (.int kv), .val (.int (own_b (¬ ((p2 &&& (2 : Int32)) = (0 : Int32))))), .val (.ref b9), .unset] [(.int kv)])) _
                    refine XS.bipush X137.here hx rfl (hb hby at_131) ?_
                    show Steps p.tables e below (T137.setTop (mkF m 133 #[.val (.int p0), .val (.int p1), .val (.int p2), .val (.int sz), .val (.int kv), .val (.int (own_b (¬ ((p2 &&& (2 : Int32)) = (0 : Int32))))), .val (.ref b9), .unset] [(.int (6 : Int32)), (.int kv)])) _
                    refine XS.icmpYes X137.here hx rfl (pc0 := 133) (pc' := 141) rfl (hb hby at_133) rfl (flt (own_no hc143 (by decide))).2.2.2 (by decide) (by decide) ?_
                    show Steps p.tables e below (T137.setTop (mkF m 141 #[.val (.int p0), .val (.int p1), .val (.int p2), .val (.int sz), .val (.int kv), .val (.int (own_b (¬ ((p2 &&& (2 : Int32)) = (0 : Int32))))), .val (.ref b9), .unset] [])) _
                    refine XS.iload X137.here hx rfl (hb hby at_141) rfl  ?_
                    show Steps p.tables e below (T137.setTop (mkF m 143 #[.val (.int p0), .val (.int p1), .val (.int p2), .val (.int sz), .val (.int kv), .val (.int (own_b (¬ ((p2 &&& (2 : Int32)) = (0 : Int32))))), .val (.ref b9), .unset] [(.int kv)])) _
                    refine XS.iloadN X137.here hx rfl (hb hby at_143) rfl  ?_
                    exact kZ)
                  have pre168 : ∀ tZ, Steps p.tables e below (T137.setTop (mkF m 152 #[.val (.int p0), .val (.int p1), .val (.int p2), .val (.int sz), .val (.int kv), .val (.int (own_b (¬ ((p2 &&& (2 : Int32)) = (0 : Int32))))), .val (.ref b9), .unset] [(.int (own_b (¬ (kv < sz))))])) tZ → Steps p.tables e below (s₁.setTop (entryFrame m #[(.int p0), (.int p1), (.int p2)] maxLocals)) tZ := fun tZ kZ => pre166 tZ (by
                    by_cases hc167 : kv < sz
                    ·  -- yes
                      show Steps p.tables e below (T137.setTop (mkF m 144 #[.val (.int p0), .val (.int p1), .val (.int p2), .val (.int sz), .val (.int kv), .val (.int (own_b (¬ ((p2 &&& (2 : Int32)) = (0 : Int32))))), .val (.ref b9), .unset] [(.int sz), (.int kv)])) _
                      refine XS.icmpYes X137.here hx rfl (pc0 := 144) (pc' := 151) rfl (hb hby at_144) rfl (tlt hc167).1 (by decide) (by decide) ?_
                      show Steps p.tables e below (T137.setTop (mkF m 151 #[.val (.int p0), .val (.int p1), .val (.int p2), .val (.int sz), .val (.int kv), .val (.int (own_b (¬ ((p2 &&& (2 : Int32)) = (0 : Int32))))), .val (.ref b9), .unset] [])) _
                      refine XS.iconst X137.here hx rfl (hb hby at_151) ?_
                      have ekZ : (own_b (¬ (kv < sz))) = (0 : Int32) := by first | (simp only [own_b, eq_true hc167, and_true, true_and, and_false, false_and, or_true, true_or, or_false, false_or, not_true_eq_false, not_false_eq_true, if_true, if_false, reduceIte]; done) | (simp [own_b, hc167]; done)
                      rw [ekZ] at kZ
                      exact kZ
                    ·  -- no
                      show Steps p.tables e below (T137.setTop (mkF m 144 #[.val (.int p0), .val (.int p1), .val (.int p2), .val (.int sz), .val (.int kv), .val (.int (own_b (¬ ((p2 &&& (2 : Int32)) = (0 : Int32))))), .val (.ref b9), .unset] [(.int sz), (.int kv)])) _
                      refine XS.icmpNo X137.here hx rfl (hb hby at_144) rfl (flt hc167).1 ?_
                      show Steps p.tables e below (T137.setTop (mkF m 147 #[.val (.int p0), .val (.int p1), .val (.int p2), .val (.int sz), .val (.int kv), .val (.int (own_b (¬ ((p2 &&& (2 : Int32)) = (0 : Int32))))), .val (.ref b9), .unset] [])) _
                      refine XS.iconst X137.here hx rfl (hb hby at_147) ?_
                      show Steps p.tables e below (T137.setTop (mkF m 148 #[.val (.int p0), .val (.int p1), .val (.int p2), .val (.int sz), .val (.int kv), .val (.int (own_b (¬ ((p2 &&& (2 : Int32)) = (0 : Int32))))), .val (.ref b9), .unset] [(.int (1 : Int32))])) _
                      refine XS.goto X137.here hx rfl (pc0 := 148) (pc' := 152) rfl (hb hby at_148) (by decide) (by decide) ?_
                      have ekZ : (own_b (¬ (kv < sz))) = (1 : Int32) := by first | (simp only [own_b, eq_false hc167, and_true, true_and, and_false, false_and, or_true, true_or, or_false, false_or, not_true_eq_false, not_false_eq_true, if_true, if_false, reduceIte]; done) | (simp [own_b, hc167]; done)
                      rw [ekZ] at kZ
                      exact kZ)
                  obtain ⟨cq169, kq169, q169a, q169b, q169c⟩ := isOf hZ rfl f137_0
                  obtain ⟨_, _, ⟨T169, L169, k169, n169⟩, -, X169, ⟨Lc169, hQ169, l169, y169, z169⟩, st169⟩ := X137.virtualBack hx (y := (⟨oE, "full", "()Z"⟩ : MethodName)) (z := (⟨oE, "full", "()Z"⟩ : MethodName)) hown (mvT hZ (ow hw 91 rfl)) (mvT hZ (ow hw 92 rfl)) (notFace_of_selects (args := #[]) (mvT hZ (ow hw 94 rfl))) (mvT hZ (ow hw 94 rfl)) (mvT hZ (ow hw 93 rfl)) (by decide) (backOf (W := 0) (rm16 l Z a0 hw [] b9 sz ((((((0 : Int64) + (1 : Int64)) + (1 : Int64)) + (1 : Int64)) + (1 : Int64)) + (1 : Int64)) T137.heap n0 Z141 f137_2 f137_3) hZ (ow hw 95 rfl) (ow hw 7 rfl) (by decide) (by decide)) q169a q169c (g := (mkF m 156 #[.val (.int p0), .val (.int p1), .val (.int p2), .val (.int sz), .val (.int kv), .val (.int (own_b (¬ ((p2 &&& (2 : Int32)) = (0 : Int32))))), .val (.ref b9), .val (.int (own_b (¬ (kv < sz))))] [(.ref b9)])) rfl (by rw [hml]; rfl) (Steps.refl _) (argsL := []) (rest := []) (lenOf pd8 rfl) rfl (by show 2 * 0 + _ ≤ _; exact Nat.le_of_eq rfl) (hb hby at_156) (fun _ _ => ⟨rfl, rfl, (by decide : 3 + 0 ≤ _), (by decide : 8 + 0 ≤ _)⟩)
                  dsimp only [Pt.U, Pt.locs, Pt.cells, Pt.slots] at X169 l169 y169 z169 st169 hQ169
                  subst l169 y169 z169
                  obtain ⟨rfl, N169q, e169⟩ := hQ169
                  have N169 := Fr.app N137 N169q
                  obtain ⟨fsZ, hrZ, hrun, hended, hW, hsame⟩ := X169.leave (v := some (.int (1 : Int32))) (fun h => by rw [Bd.returns] at h; cases h)
                  refine ⟨_, _, pre168 _ ?_, hrun, hended, _, _, rfl, ?_, ⟨_, rfl⟩, hW, hsame.mono (by decide) (by decide)⟩
                  · show Steps p.tables e below (T137.setTop (mkF m 152 #[.val (.int p0), .val (.int p1), .val (.int p2), .val (.int sz), .val (.int kv), .val (.int (own_b (¬ ((p2 &&& (2 : Int32)) = (0 : Int32))))), .val (.ref b9), .unset] [(.int (own_b (¬ (kv < sz))))])) _
                    refine XS.istore X137.here hx rfl (hb hby at_152) rfl (l' := #[.val (.int p0), .val (.int p1), .val (.int p2), .val (.int sz), .val (.int kv), .val (.int (own_b (¬ ((p2 &&& (2 : Int32)) = (0 : Int32))))), .val (.ref b9), .val (.int (own_b (¬ (kv < sz))))]) rfl ?_
                    show Steps p.tables e below (T137.setTop (mkF m 154 #[.val (.int p0), .val (.int p1), .val (.int p2), .val (.int sz), .val (.int kv), .val (.int (own_b (¬ ((p2 &&& (2 : Int32)) = (0 : Int32))))), .val (.ref b9), .val (.int (own_b (¬ (kv < sz))))] [])) _
                    refine XS.aload X137.here hx rfl (hb hby at_154) rfl rfl ?_
                    show Steps p.tables e below (T137.setTop (mkF m 156 #[.val (.int p0), .val (.int p1), .val (.int p2), .val (.int sz), .val (.int kv), .val (.int (own_b (¬ ((p2 &&& (2 : Int32)) = (0 : Int32))))), .val (.ref b9), .val (.int (own_b (¬ (kv < sz))))] [(.ref b9)])) _
                    refine st169.trans ?_
                    show Steps p.tables e below (T169.setTop (mkF m 159 #[.val (.int p0), .val (.int p1), .val (.int p2), .val (.int sz), .val (.int kv), .val (.int (own_b (¬ ((p2 &&& (2 : Int32)) = (0 : Int32))))), .val (.ref b9), .val (.int (own_b (¬ (kv < sz))))] [(.int (own_b (¬ (((((((0 : Int64) + (1 : Int64)) + (1 : Int64)) + (1 : Int64)) + (1 : Int64)) + (1 : Int64)) < (sz.toInt64)))))])) _
                    refine XS.iload X169.here hx rfl (hb hby at_159) rfl  ?_
                    show Steps p.tables e below (T169.setTop (mkF m 161 #[.val (.int p0), .val (.int p1), .val (.int p2), .val (.int sz), .val (.int kv), .val (.int (own_b (¬ ((p2 &&& (2 : Int32)) = (0 : Int32))))), .val (.ref b9), .val (.int (own_b (¬ (kv < sz))))] [(.int (own_b (¬ (kv < sz)))), (.int (own_b (¬ (((((((0 : Int64) + (1 : Int64)) + (1 : Int64)) + (1 : Int64)) + (1 : Int64)) + (1 : Int64)) < (sz.toInt64)))))])) _
                    refine XS.icmpNo X169.here hx rfl (hb hby at_161) rfl (teq (own_fin 5 hsz (by decide) (own_eqk 5 (hc135) hc143 (by decide) (by decide)))).2 ?_
                    show Steps p.tables e below (T169.setTop (mkF m 164 #[.val (.int p0), .val (.int p1), .val (.int p2), .val (.int sz), .val (.int kv), .val (.int (own_b (¬ ((p2 &&& (2 : Int32)) = (0 : Int32))))), .val (.ref b9), .val (.int (own_b (¬ (kv < sz))))] [])) _
                    refine XS.iconst X169.here hx rfl (hb hby at_164) ?_
                    show Steps p.tables e below (T169.setTop (mkF m 165 #[.val (.int p0), .val (.int p1), .val (.int p2), .val (.int sz), .val (.int kv), .val (.int (own_b (¬ ((p2 &&& (2 : Int32)) = (0 : Int32))))), .val (.ref b9), .val (.int (own_b (¬ (kv < sz))))] [(.int (1 : Int32))])) _
                    refine XS.goto X169.here hx rfl (pc0 := 165) (pc' := 169) rfl (hb hby at_165) (by decide) (by decide) ?_
                    show Steps p.tables e below (T169.setTop (mkF m 169 #[.val (.int p0), .val (.int p1), .val (.int p2), .val (.int sz), .val (.int kv), .val (.int (own_b (¬ ((p2 &&& (2 : Int32)) = (0 : Int32))))), .val (.ref b9), .val (.int (own_b (¬ (kv < sz))))] [(.int (1 : Int32))])) _
                    exact retN X169 hx (t := .boolean) Bd.returns (by simp) (hb hby at_169) hrZ
                  · show Q0 Z p0 p1 p2 h0 n0 _ T169.heap _
                    rw [e169]
                    exact ⟨rfl, N169⟩
              ·  -- no
                have pre170 : ∀ tZ, Steps p.tables e below (T129.setTop (mkF m 144 #[.val (.int p0), .val (.int p1), .val (.int p2), .val (.int sz), .val (.int kv), .val (.int (own_b (¬ ((p2 &&& (2 : Int32)) = (0 : Int32))))), .val (.ref b9), .unset] [(.int sz), (.int kv)])) tZ → Steps p.tables e below (s₁.setTop (entryFrame m #[(.int p0), (.int p1), (.int p2)] maxLocals)) tZ := fun tZ kZ => pre134 tZ (by
                  show Steps p.tables e below (T129.setTop (mkF m 110 #[.val (.int p0), .val (.int p1), .val (.int p2), .val (.int sz), .val (.int kv), .val (.int (own_b (¬ ((p2 &&& (2 : Int32)) = (0 : Int32))))), .val (.ref b9), .unset] [(.int (4 : Int32)), (.int kv)])) _
                  refine XS.icmpYes X129.here hx rfl (pc0 := 110) (pc' := 118) rfl (hb hby at_110) rfl (flt hc135).2.2.2 (by decide) (by decide) ?_
                  show Steps p.tables e below (T129.setTop (mkF m 118 #[.val (.int p0), .val (.int p1), .val (.int p2), .val (.int sz), .val (.int kv), .val (.int (own_b (¬ ((p2 &&& (2 : Int32)) = (0 : Int32))))), .val (.ref b9), .unset] [])) _
                  refine XS.iload X129.here hx rfl (hb hby at_118) rfl  ?_
                  show Steps p.tables e below (T129.setTop (mkF m 120 #[.val (.int p0), .val (.int p1), .val (.int p2), .val (.int sz), .val (.int kv), .val (.int (own_b (¬ ((p2 &&& (2 : Int32)) = (0 : Int32))))), .val (.ref b9), .unset] [(.int kv)])) _
                  refine XS.iconst X129.here hx rfl (hb hby at_120) ?_
                  show Steps p.tables e below (T129.setTop (mkF m 121 #[.val (.int p0), .val (.int p1), .val (.int p2), .val (.int sz), .val (.int kv), .val (.int (own_b (¬ ((p2 &&& (2 : Int32)) = (0 : Int32))))), .val (.ref b9), .unset] [(.int (5 : Int32)), (.int kv)])) _
                  refine XS.icmpYes X129.here hx rfl (pc0 := 121) (pc' := 129) rfl (hb hby at_121) rfl (flt (own_no hc135 (by decide))).2.2.2 (by decide) (by decide) ?_
                  show Steps p.tables e below (T129.setTop (mkF m 129 #[.val (.int p0), .val (.int p1), .val (.int p2), .val (.int sz), .val (.int kv), .val (.int (own_b (¬ ((p2 &&& (2 : Int32)) = (0 : Int32))))), .val (.ref b9), .unset] [])) _
                  refine XS.iload X129.here hx rfl (hb hby at_129) rfl  ?_
                  show Steps p.tables e below (T129.setTop (mkF m 131 #[.val (.int p0), .val (.int p1), .val (.int p2), .val (.int sz), .val (.int kv), .val (.int (own_b (¬ ((p2 &&& (2 : Int32)) = (0 : Int32))))), .val (.ref b9), .unset] [(.int kv)])) _
                  refine XS.bipush X129.here hx rfl (hb hby at_131) ?_
                  show Steps p.tables e below (T129.setTop (mkF m 133 #[.val (.int p0), .val (.int p1), .val (.int p2), .val (.int sz), .val (.int kv), .val (.int (own_b (¬ ((p2 &&& (2 : Int32)) = (0 : Int32))))), .val (.ref b9), .unset] [(.int (6 : Int32)), (.int kv)])) _
                  refine XS.icmpYes X129.here hx rfl (pc0 := 133) (pc' := 141) rfl (hb hby at_133) rfl (flt (own_no hc135 (by decide))).2.2.2 (by decide) (by decide) ?_
                  show Steps p.tables e below (T129.setTop (mkF m 141 #[.val (.int p0), .val (.int p1), .val (.int p2), .val (.int sz), .val (.int kv), .val (.int (own_b (¬ ((p2 &&& (2 : Int32)) = (0 : Int32))))), .val (.ref b9), .unset] [])) _
                  refine XS.iload X129.here hx rfl (hb hby at_141) rfl  ?_
                  show Steps p.tables e below (T129.setTop (mkF m 143 #[.val (.int p0), .val (.int p1), .val (.int p2), .val (.int sz), .val (.int kv), .val (.int (own_b (¬ ((p2 &&& (2 : Int32)) = (0 : Int32))))), .val (.ref b9), .unset] [(.int kv)])) _
                  refine XS.iloadN X129.here hx rfl (hb hby at_143) rfl  ?_
                  exact kZ)
                have pre172 : ∀ tZ, Steps p.tables e below (T129.setTop (mkF m 152 #[.val (.int p0), .val (.int p1), .val (.int p2), .val (.int sz), .val (.int kv), .val (.int (own_b (¬ ((p2 &&& (2 : Int32)) = (0 : Int32))))), .val (.ref b9), .unset] [(.int (own_b (¬ (kv < sz))))])) tZ → Steps p.tables e below (s₁.setTop (entryFrame m #[(.int p0), (.int p1), (.int p2)] maxLocals)) tZ := fun tZ kZ => pre170 tZ (by
                  by_cases hc171 : kv < sz
                  ·  -- yes
                    show Steps p.tables e below (T129.setTop (mkF m 144 #[.val (.int p0), .val (.int p1), .val (.int p2), .val (.int sz), .val (.int kv), .val (.int (own_b (¬ ((p2 &&& (2 : Int32)) = (0 : Int32))))), .val (.ref b9), .unset] [(.int sz), (.int kv)])) _
                    refine XS.icmpYes X129.here hx rfl (pc0 := 144) (pc' := 151) rfl (hb hby at_144) rfl (tlt hc171).1 (by decide) (by decide) ?_
                    show Steps p.tables e below (T129.setTop (mkF m 151 #[.val (.int p0), .val (.int p1), .val (.int p2), .val (.int sz), .val (.int kv), .val (.int (own_b (¬ ((p2 &&& (2 : Int32)) = (0 : Int32))))), .val (.ref b9), .unset] [])) _
                    refine XS.iconst X129.here hx rfl (hb hby at_151) ?_
                    have ekZ : (own_b (¬ (kv < sz))) = (0 : Int32) := by first | (simp only [own_b, eq_true hc171, and_true, true_and, and_false, false_and, or_true, true_or, or_false, false_or, not_true_eq_false, not_false_eq_true, if_true, if_false, reduceIte]; done) | (simp [own_b, hc171]; done)
                    rw [ekZ] at kZ
                    exact kZ
                  ·  -- no
                    show Steps p.tables e below (T129.setTop (mkF m 144 #[.val (.int p0), .val (.int p1), .val (.int p2), .val (.int sz), .val (.int kv), .val (.int (own_b (¬ ((p2 &&& (2 : Int32)) = (0 : Int32))))), .val (.ref b9), .unset] [(.int sz), (.int kv)])) _
                    refine XS.icmpNo X129.here hx rfl (hb hby at_144) rfl (flt hc171).1 ?_
                    show Steps p.tables e below (T129.setTop (mkF m 147 #[.val (.int p0), .val (.int p1), .val (.int p2), .val (.int sz), .val (.int kv), .val (.int (own_b (¬ ((p2 &&& (2 : Int32)) = (0 : Int32))))), .val (.ref b9), .unset] [])) _
                    refine XS.iconst X129.here hx rfl (hb hby at_147) ?_
                    show Steps p.tables e below (T129.setTop (mkF m 148 #[.val (.int p0), .val (.int p1), .val (.int p2), .val (.int sz), .val (.int kv), .val (.int (own_b (¬ ((p2 &&& (2 : Int32)) = (0 : Int32))))), .val (.ref b9), .unset] [(.int (1 : Int32))])) _
                    refine XS.goto X129.here hx rfl (pc0 := 148) (pc' := 152) rfl (hb hby at_148) (by decide) (by decide) ?_
                    have ekZ : (own_b (¬ (kv < sz))) = (1 : Int32) := by first | (simp only [own_b, eq_false hc171, and_true, true_and, and_false, false_and, or_true, true_or, or_false, false_or, not_true_eq_false, not_false_eq_true, if_true, if_false, reduceIte]; done) | (simp [own_b, hc171]; done)
                    rw [ekZ] at kZ
                    exact kZ)
                obtain ⟨cq173, kq173, q173a, q173b, q173c⟩ := isOf hZ rfl f129_0
                obtain ⟨_, _, ⟨T173, L173, k173, n173⟩, -, X173, ⟨Lc173, hQ173, l173, y173, z173⟩, st173⟩ := X129.virtualBack hx (y := (⟨oE, "full", "()Z"⟩ : MethodName)) (z := (⟨oE, "full", "()Z"⟩ : MethodName)) hown (mvT hZ (ow hw 91 rfl)) (mvT hZ (ow hw 92 rfl)) (notFace_of_selects (args := #[]) (mvT hZ (ow hw 94 rfl))) (mvT hZ (ow hw 94 rfl)) (mvT hZ (ow hw 93 rfl)) (by decide) (backOf (W := 0) (rm16 l Z a0 hw [] b9 sz (((((0 : Int64) + (1 : Int64)) + (1 : Int64)) + (1 : Int64)) + (1 : Int64)) T129.heap n0 Z133 f129_2 f129_3) hZ (ow hw 95 rfl) (ow hw 7 rfl) (by decide) (by decide)) q173a q173c (g := (mkF m 156 #[.val (.int p0), .val (.int p1), .val (.int p2), .val (.int sz), .val (.int kv), .val (.int (own_b (¬ ((p2 &&& (2 : Int32)) = (0 : Int32))))), .val (.ref b9), .val (.int (own_b (¬ (kv < sz))))] [(.ref b9)])) rfl (by rw [hml]; rfl) (Steps.refl _) (argsL := []) (rest := []) (lenOf pd8 rfl) rfl (by show 2 * 0 + _ ≤ _; exact Nat.le_of_eq rfl) (hb hby at_156) (fun _ _ => ⟨rfl, rfl, (by decide : 3 + 0 ≤ _), (by decide : 8 + 0 ≤ _)⟩)
                dsimp only [Pt.U, Pt.locs, Pt.cells, Pt.slots] at X173 l173 y173 z173 st173 hQ173
                subst l173 y173 z173
                obtain ⟨rfl, N173q, e173⟩ := hQ173
                have N173 := Fr.app N129 N173q
                obtain ⟨fsZ, hrZ, hrun, hended, hW, hsame⟩ := X173.leave (v := some (.int (1 : Int32))) (fun h => by rw [Bd.returns] at h; cases h)
                refine ⟨_, _, pre172 _ ?_, hrun, hended, _, _, rfl, ?_, ⟨_, rfl⟩, hW, hsame.mono (by decide) (by decide)⟩
                · show Steps p.tables e below (T129.setTop (mkF m 152 #[.val (.int p0), .val (.int p1), .val (.int p2), .val (.int sz), .val (.int kv), .val (.int (own_b (¬ ((p2 &&& (2 : Int32)) = (0 : Int32))))), .val (.ref b9), .unset] [(.int (own_b (¬ (kv < sz))))])) _
                  refine XS.istore X129.here hx rfl (hb hby at_152) rfl (l' := #[.val (.int p0), .val (.int p1), .val (.int p2), .val (.int sz), .val (.int kv), .val (.int (own_b (¬ ((p2 &&& (2 : Int32)) = (0 : Int32))))), .val (.ref b9), .val (.int (own_b (¬ (kv < sz))))]) rfl ?_
                  show Steps p.tables e below (T129.setTop (mkF m 154 #[.val (.int p0), .val (.int p1), .val (.int p2), .val (.int sz), .val (.int kv), .val (.int (own_b (¬ ((p2 &&& (2 : Int32)) = (0 : Int32))))), .val (.ref b9), .val (.int (own_b (¬ (kv < sz))))] [])) _
                  refine XS.aload X129.here hx rfl (hb hby at_154) rfl rfl ?_
                  show Steps p.tables e below (T129.setTop (mkF m 156 #[.val (.int p0), .val (.int p1), .val (.int p2), .val (.int sz), .val (.int kv), .val (.int (own_b (¬ ((p2 &&& (2 : Int32)) = (0 : Int32))))), .val (.ref b9), .val (.int (own_b (¬ (kv < sz))))] [(.ref b9)])) _
                  refine st173.trans ?_
                  show Steps p.tables e below (T173.setTop (mkF m 159 #[.val (.int p0), .val (.int p1), .val (.int p2), .val (.int sz), .val (.int kv), .val (.int (own_b (¬ ((p2 &&& (2 : Int32)) = (0 : Int32))))), .val (.ref b9), .val (.int (own_b (¬ (kv < sz))))] [(.int (own_b (¬ ((((((0 : Int64) + (1 : Int64)) + (1 : Int64)) + (1 : Int64)) + (1 : Int64)) < (sz.toInt64)))))])) _
                  refine XS.iload X173.here hx rfl (hb hby at_159) rfl  ?_
                  show Steps p.tables e below (T173.setTop (mkF m 161 #[.val (.int p0), .val (.int p1), .val (.int p2), .val (.int sz), .val (.int kv), .val (.int (own_b (¬ ((p2 &&& (2 : Int32)) = (0 : Int32))))), .val (.ref b9), .val (.int (own_b (¬ (kv < sz))))] [(.int (own_b (¬ (kv < sz)))), (.int (own_b (¬ ((((((0 : Int64) + (1 : Int64)) + (1 : Int64)) + (1 : Int64)) + (1 : Int64)) < (sz.toInt64)))))])) _
                  refine XS.icmpNo X173.here hx rfl (hb hby at_161) rfl (teq (own_fin 4 hsz (by decide) (own_eqk 4 (hc127) hc135 (by decide) (by decide)))).2 ?_
                  show Steps p.tables e below (T173.setTop (mkF m 164 #[.val (.int p0), .val (.int p1), .val (.int p2), .val (.int sz), .val (.int kv), .val (.int (own_b (¬ ((p2 &&& (2 : Int32)) = (0 : Int32))))), .val (.ref b9), .val (.int (own_b (¬ (kv < sz))))] [])) _
                  refine XS.iconst X173.here hx rfl (hb hby at_164) ?_
                  show Steps p.tables e below (T173.setTop (mkF m 165 #[.val (.int p0), .val (.int p1), .val (.int p2), .val (.int sz), .val (.int kv), .val (.int (own_b (¬ ((p2 &&& (2 : Int32)) = (0 : Int32))))), .val (.ref b9), .val (.int (own_b (¬ (kv < sz))))] [(.int (1 : Int32))])) _
                  refine XS.goto X173.here hx rfl (pc0 := 165) (pc' := 169) rfl (hb hby at_165) (by decide) (by decide) ?_
                  show Steps p.tables e below (T173.setTop (mkF m 169 #[.val (.int p0), .val (.int p1), .val (.int p2), .val (.int sz), .val (.int kv), .val (.int (own_b (¬ ((p2 &&& (2 : Int32)) = (0 : Int32))))), .val (.ref b9), .val (.int (own_b (¬ (kv < sz))))] [(.int (1 : Int32))])) _
                  exact retN X173 hx (t := .boolean) Bd.returns (by simp) (hb hby at_169) hrZ
                · show Q0 Z p0 p1 p2 h0 n0 _ T173.heap _
                  rw [e173]
                  exact ⟨rfl, N173⟩
            ·  -- no
              have pre174 : ∀ tZ, Steps p.tables e below (T121.setTop (mkF m 144 #[.val (.int p0), .val (.int p1), .val (.int p2), .val (.int sz), .val (.int kv), .val (.int (own_b (¬ ((p2 &&& (2 : Int32)) = (0 : Int32))))), .val (.ref b9), .unset] [(.int sz), (.int kv)])) tZ → Steps p.tables e below (s₁.setTop (entryFrame m #[(.int p0), (.int p1), (.int p2)] maxLocals)) tZ := fun tZ kZ => pre126 tZ (by
                show Steps p.tables e below (T121.setTop (mkF m 99 #[.val (.int p0), .val (.int p1), .val (.int p2), .val (.int sz), .val (.int kv), .val (.int (own_b (¬ ((p2 &&& (2 : Int32)) = (0 : Int32))))), .val (.ref b9), .unset] [(.int (3 : Int32)), (.int kv)])) _
                refine XS.icmpYes X121.here hx rfl (pc0 := 99) (pc' := 107) rfl (hb hby at_99) rfl (flt hc127).2.2.2 (by decide) (by decide) ?_
                show Steps p.tables e below (T121.setTop (mkF m 107 #[.val (.int p0), .val (.int p1), .val (.int p2), .val (.int sz), .val (.int kv), .val (.int (own_b (¬ ((p2 &&& (2 : Int32)) = (0 : Int32))))), .val (.ref b9), .unset] [])) _
                refine XS.iload X121.here hx rfl (hb hby at_107) rfl  ?_
                show Steps p.tables e below (T121.setTop (mkF m 109 #[.val (.int p0), .val (.int p1), .val (.int p2), .val (.int sz), .val (.int kv), .val (.int (own_b (¬ ((p2 &&& (2 : Int32)) = (0 : Int32))))), .val (.ref b9), .unset] [(.int kv)])) _
                refine XS.iconst X121.here hx rfl (hb hby at_109) ?_
                show Steps p.tables e below (T121.setTop (mkF m 110 #[.val (.int p0), .val (.int p1), .val (.int p2), .val (.int sz), .val (.int kv), .val (.int (own_b (¬ ((p2 &&& (2 : Int32)) = (0 : Int32))))), .val (.ref b9), .unset] [(.int (4 : Int32)), (.int kv)])) _
                refine XS.icmpYes X121.here hx rfl (pc0 := 110) (pc' := 118) rfl (hb hby at_110) rfl (flt (own_no hc127 (by decide))).2.2.2 (by decide) (by decide) ?_
                show Steps p.tables e below (T121.setTop (mkF m 118 #[.val (.int p0), .val (.int p1), .val (.int p2), .val (.int sz), .val (.int kv), .val (.int (own_b (¬ ((p2 &&& (2 : Int32)) = (0 : Int32))))), .val (.ref b9), .unset] [])) _
                refine XS.iload X121.here hx rfl (hb hby at_118) rfl  ?_
                show Steps p.tables e below (T121.setTop (mkF m 120 #[.val (.int p0), .val (.int p1), .val (.int p2), .val (.int sz), .val (.int kv), .val (.int (own_b (¬ ((p2 &&& (2 : Int32)) = (0 : Int32))))), .val (.ref b9), .unset] [(.int kv)])) _
                refine XS.iconst X121.here hx rfl (hb hby at_120) ?_
                show Steps p.tables e below (T121.setTop (mkF m 121 #[.val (.int p0), .val (.int p1), .val (.int p2), .val (.int sz), .val (.int kv), .val (.int (own_b (¬ ((p2 &&& (2 : Int32)) = (0 : Int32))))), .val (.ref b9), .unset] [(.int (5 : Int32)), (.int kv)])) _
                refine XS.icmpYes X121.here hx rfl (pc0 := 121) (pc' := 129) rfl (hb hby at_121) rfl (flt (own_no hc127 (by decide))).2.2.2 (by decide) (by decide) ?_
                show Steps p.tables e below (T121.setTop (mkF m 129 #[.val (.int p0), .val (.int p1), .val (.int p2), .val (.int sz), .val (.int kv), .val (.int (own_b (¬ ((p2 &&& (2 : Int32)) = (0 : Int32))))), .val (.ref b9), .unset] [])) _
                refine XS.iload X121.here hx rfl (hb hby at_129) rfl  ?_
                show Steps p.tables e below (T121.setTop (mkF m 131 #[.val (.int p0), .val (.int p1), .val (.int p2), .val (.int sz), .val (.int kv), .val (.int (own_b (¬ ((p2 &&& (2 : Int32)) = (0 : Int32))))), .val (.ref b9), .unset] [(.int kv)])) _
                refine XS.bipush X121.here hx rfl (hb hby at_131) ?_
                show Steps p.tables e below (T121.setTop (mkF m 133 #[.val (.int p0), .val (.int p1), .val (.int p2), .val (.int sz), .val (.int kv), .val (.int (own_b (¬ ((p2 &&& (2 : Int32)) = (0 : Int32))))), .val (.ref b9), .unset] [(.int (6 : Int32)), (.int kv)])) _
                refine XS.icmpYes X121.here hx rfl (pc0 := 133) (pc' := 141) rfl (hb hby at_133) rfl (flt (own_no hc127 (by decide))).2.2.2 (by decide) (by decide) ?_
                show Steps p.tables e below (T121.setTop (mkF m 141 #[.val (.int p0), .val (.int p1), .val (.int p2), .val (.int sz), .val (.int kv), .val (.int (own_b (¬ ((p2 &&& (2 : Int32)) = (0 : Int32))))), .val (.ref b9), .unset] [])) _
                refine XS.iload X121.here hx rfl (hb hby at_141) rfl  ?_
                show Steps p.tables e below (T121.setTop (mkF m 143 #[.val (.int p0), .val (.int p1), .val (.int p2), .val (.int sz), .val (.int kv), .val (.int (own_b (¬ ((p2 &&& (2 : Int32)) = (0 : Int32))))), .val (.ref b9), .unset] [(.int kv)])) _
                refine XS.iloadN X121.here hx rfl (hb hby at_143) rfl  ?_
                exact kZ)
              have pre176 : ∀ tZ, Steps p.tables e below (T121.setTop (mkF m 152 #[.val (.int p0), .val (.int p1), .val (.int p2), .val (.int sz), .val (.int kv), .val (.int (own_b (¬ ((p2 &&& (2 : Int32)) = (0 : Int32))))), .val (.ref b9), .unset] [(.int (own_b (¬ (kv < sz))))])) tZ → Steps p.tables e below (s₁.setTop (entryFrame m #[(.int p0), (.int p1), (.int p2)] maxLocals)) tZ := fun tZ kZ => pre174 tZ (by
                by_cases hc175 : kv < sz
                ·  -- yes
                  show Steps p.tables e below (T121.setTop (mkF m 144 #[.val (.int p0), .val (.int p1), .val (.int p2), .val (.int sz), .val (.int kv), .val (.int (own_b (¬ ((p2 &&& (2 : Int32)) = (0 : Int32))))), .val (.ref b9), .unset] [(.int sz), (.int kv)])) _
                  refine XS.icmpYes X121.here hx rfl (pc0 := 144) (pc' := 151) rfl (hb hby at_144) rfl (tlt hc175).1 (by decide) (by decide) ?_
                  show Steps p.tables e below (T121.setTop (mkF m 151 #[.val (.int p0), .val (.int p1), .val (.int p2), .val (.int sz), .val (.int kv), .val (.int (own_b (¬ ((p2 &&& (2 : Int32)) = (0 : Int32))))), .val (.ref b9), .unset] [])) _
                  refine XS.iconst X121.here hx rfl (hb hby at_151) ?_
                  have ekZ : (own_b (¬ (kv < sz))) = (0 : Int32) := by first | (simp only [own_b, eq_true hc175, and_true, true_and, and_false, false_and, or_true, true_or, or_false, false_or, not_true_eq_false, not_false_eq_true, if_true, if_false, reduceIte]; done) | (simp [own_b, hc175]; done)
                  rw [ekZ] at kZ
                  exact kZ
                ·  -- no
                  show Steps p.tables e below (T121.setTop (mkF m 144 #[.val (.int p0), .val (.int p1), .val (.int p2), .val (.int sz), .val (.int kv), .val (.int (own_b (¬ ((p2 &&& (2 : Int32)) = (0 : Int32))))), .val (.ref b9), .unset] [(.int sz), (.int kv)])) _
                  refine XS.icmpNo X121.here hx rfl (hb hby at_144) rfl (flt hc175).1 ?_
                  show Steps p.tables e below (T121.setTop (mkF m 147 #[.val (.int p0), .val (.int p1), .val (.int p2), .val (.int sz), .val (.int kv), .val (.int (own_b (¬ ((p2 &&& (2 : Int32)) = (0 : Int32))))), .val (.ref b9), .unset] [])) _
                  refine XS.iconst X121.here hx rfl (hb hby at_147) ?_
                  show Steps p.tables e below (T121.setTop (mkF m 148 #[.val (.int p0), .val (.int p1), .val (.int p2), .val (.int sz), .val (.int kv), .val (.int (own_b (¬ ((p2 &&& (2 : Int32)) = (0 : Int32))))), .val (.ref b9), .unset] [(.int (1 : Int32))])) _
                  refine XS.goto X121.here hx rfl (pc0 := 148) (pc' := 152) rfl (hb hby at_148) (by decide) (by decide) ?_
                  have ekZ : (own_b (¬ (kv < sz))) = (1 : Int32) := by first | (simp only [own_b, eq_false hc175, and_true, true_and, and_false, false_and, or_true, true_or, or_false, false_or, not_true_eq_false, not_false_eq_true, if_true, if_false, reduceIte]; done) | (simp [own_b, hc175]; done)
                  rw [ekZ] at kZ
                  exact kZ)
              obtain ⟨cq177, kq177, q177a, q177b, q177c⟩ := isOf hZ rfl f121_0
              obtain ⟨_, _, ⟨T177, L177, k177, n177⟩, -, X177, ⟨Lc177, hQ177, l177, y177, z177⟩, st177⟩ := X121.virtualBack hx (y := (⟨oE, "full", "()Z"⟩ : MethodName)) (z := (⟨oE, "full", "()Z"⟩ : MethodName)) hown (mvT hZ (ow hw 91 rfl)) (mvT hZ (ow hw 92 rfl)) (notFace_of_selects (args := #[]) (mvT hZ (ow hw 94 rfl))) (mvT hZ (ow hw 94 rfl)) (mvT hZ (ow hw 93 rfl)) (by decide) (backOf (W := 0) (rm16 l Z a0 hw [] b9 sz ((((0 : Int64) + (1 : Int64)) + (1 : Int64)) + (1 : Int64)) T121.heap n0 Z125 f121_2 f121_3) hZ (ow hw 95 rfl) (ow hw 7 rfl) (by decide) (by decide)) q177a q177c (g := (mkF m 156 #[.val (.int p0), .val (.int p1), .val (.int p2), .val (.int sz), .val (.int kv), .val (.int (own_b (¬ ((p2 &&& (2 : Int32)) = (0 : Int32))))), .val (.ref b9), .val (.int (own_b (¬ (kv < sz))))] [(.ref b9)])) rfl (by rw [hml]; rfl) (Steps.refl _) (argsL := []) (rest := []) (lenOf pd8 rfl) rfl (by show 2 * 0 + _ ≤ _; exact Nat.le_of_eq rfl) (hb hby at_156) (fun _ _ => ⟨rfl, rfl, (by decide : 3 + 0 ≤ _), (by decide : 8 + 0 ≤ _)⟩)
              dsimp only [Pt.U, Pt.locs, Pt.cells, Pt.slots] at X177 l177 y177 z177 st177 hQ177
              subst l177 y177 z177
              obtain ⟨rfl, N177q, e177⟩ := hQ177
              have N177 := Fr.app N121 N177q
              obtain ⟨fsZ, hrZ, hrun, hended, hW, hsame⟩ := X177.leave (v := some (.int (1 : Int32))) (fun h => by rw [Bd.returns] at h; cases h)
              refine ⟨_, _, pre176 _ ?_, hrun, hended, _, _, rfl, ?_, ⟨_, rfl⟩, hW, hsame.mono (by decide) (by decide)⟩
              · show Steps p.tables e below (T121.setTop (mkF m 152 #[.val (.int p0), .val (.int p1), .val (.int p2), .val (.int sz), .val (.int kv), .val (.int (own_b (¬ ((p2 &&& (2 : Int32)) = (0 : Int32))))), .val (.ref b9), .unset] [(.int (own_b (¬ (kv < sz))))])) _
                refine XS.istore X121.here hx rfl (hb hby at_152) rfl (l' := #[.val (.int p0), .val (.int p1), .val (.int p2), .val (.int sz), .val (.int kv), .val (.int (own_b (¬ ((p2 &&& (2 : Int32)) = (0 : Int32))))), .val (.ref b9), .val (.int (own_b (¬ (kv < sz))))]) rfl ?_
                show Steps p.tables e below (T121.setTop (mkF m 154 #[.val (.int p0), .val (.int p1), .val (.int p2), .val (.int sz), .val (.int kv), .val (.int (own_b (¬ ((p2 &&& (2 : Int32)) = (0 : Int32))))), .val (.ref b9), .val (.int (own_b (¬ (kv < sz))))] [])) _
                refine XS.aload X121.here hx rfl (hb hby at_154) rfl rfl ?_
                show Steps p.tables e below (T121.setTop (mkF m 156 #[.val (.int p0), .val (.int p1), .val (.int p2), .val (.int sz), .val (.int kv), .val (.int (own_b (¬ ((p2 &&& (2 : Int32)) = (0 : Int32))))), .val (.ref b9), .val (.int (own_b (¬ (kv < sz))))] [(.ref b9)])) _
                refine st177.trans ?_
                show Steps p.tables e below (T177.setTop (mkF m 159 #[.val (.int p0), .val (.int p1), .val (.int p2), .val (.int sz), .val (.int kv), .val (.int (own_b (¬ ((p2 &&& (2 : Int32)) = (0 : Int32))))), .val (.ref b9), .val (.int (own_b (¬ (kv < sz))))] [(.int (own_b (¬ (((((0 : Int64) + (1 : Int64)) + (1 : Int64)) + (1 : Int64)) < (sz.toInt64)))))])) _
                refine XS.iload X177.here hx rfl (hb hby at_159) rfl  ?_
                show Steps p.tables e below (T177.setTop (mkF m 161 #[.val (.int p0), .val (.int p1), .val (.int p2), .val (.int sz), .val (.int kv), .val (.int (own_b (¬ ((p2 &&& (2 : Int32)) = (0 : Int32))))), .val (.ref b9), .val (.int (own_b (¬ (kv < sz))))] [(.int (own_b (¬ (kv < sz)))), (.int (own_b (¬ (((((0 : Int64) + (1 : Int64)) + (1 : Int64)) + (1 : Int64)) < (sz.toInt64)))))])) _
                refine XS.icmpNo X177.here hx rfl (hb hby at_161) rfl (teq (own_fin 3 hsz (by decide) (own_eqk 3 (hc119) hc127 (by decide) (by decide)))).2 ?_
                show Steps p.tables e below (T177.setTop (mkF m 164 #[.val (.int p0), .val (.int p1), .val (.int p2), .val (.int sz), .val (.int kv), .val (.int (own_b (¬ ((p2 &&& (2 : Int32)) = (0 : Int32))))), .val (.ref b9), .val (.int (own_b (¬ (kv < sz))))] [])) _
                refine XS.iconst X177.here hx rfl (hb hby at_164) ?_
                show Steps p.tables e below (T177.setTop (mkF m 165 #[.val (.int p0), .val (.int p1), .val (.int p2), .val (.int sz), .val (.int kv), .val (.int (own_b (¬ ((p2 &&& (2 : Int32)) = (0 : Int32))))), .val (.ref b9), .val (.int (own_b (¬ (kv < sz))))] [(.int (1 : Int32))])) _
                refine XS.goto X177.here hx rfl (pc0 := 165) (pc' := 169) rfl (hb hby at_165) (by decide) (by decide) ?_
                show Steps p.tables e below (T177.setTop (mkF m 169 #[.val (.int p0), .val (.int p1), .val (.int p2), .val (.int sz), .val (.int kv), .val (.int (own_b (¬ ((p2 &&& (2 : Int32)) = (0 : Int32))))), .val (.ref b9), .val (.int (own_b (¬ (kv < sz))))] [(.int (1 : Int32))])) _
                exact retN X177 hx (t := .boolean) Bd.returns (by simp) (hb hby at_169) hrZ
              · show Q0 Z p0 p1 p2 h0 n0 _ T177.heap _
                rw [e177]
                exact ⟨rfl, N177⟩
          ·  -- no
            have pre178 : ∀ tZ, Steps p.tables e below (T113.setTop (mkF m 144 #[.val (.int p0), .val (.int p1), .val (.int p2), .val (.int sz), .val (.int kv), .val (.int (own_b (¬ ((p2 &&& (2 : Int32)) = (0 : Int32))))), .val (.ref b9), .unset] [(.int sz), (.int kv)])) tZ → Steps p.tables e below (s₁.setTop (entryFrame m #[(.int p0), (.int p1), (.int p2)] maxLocals)) tZ := fun tZ kZ => pre118 tZ (by
              show Steps p.tables e below (T113.setTop (mkF m 88 #[.val (.int p0), .val (.int p1), .val (.int p2), .val (.int sz), .val (.int kv), .val (.int (own_b (¬ ((p2 &&& (2 : Int32)) = (0 : Int32))))), .val (.ref b9), .unset] [(.int (2 : Int32)), (.int kv)])) _
              refine XS.icmpYes X113.here hx rfl (pc0 := 88) (pc' := 96) rfl (hb hby at_88) rfl (flt hc119).2.2.2 (by decide) (by decide) ?_
              show Steps p.tables e below (T113.setTop (mkF m 96 #[.val (.int p0), .val (.int p1), .val (.int p2), .val (.int sz), .val (.int kv), .val (.int (own_b (¬ ((p2 &&& (2 : Int32)) = (0 : Int32))))), .val (.ref b9), .unset] [])) _
              refine XS.iload X113.here hx rfl (hb hby at_96) rfl  ?_
              show Steps p.tables e below (T113.setTop (mkF m 98 #[.val (.int p0), .val (.int p1), .val (.int p2), .val (.int sz), .val (.int kv), .val (.int (own_b (¬ ((p2 &&& (2 : Int32)) = (0 : Int32))))), .val (.ref b9), .unset] [(.int kv)])) _
              refine XS.iconst X113.here hx rfl (hb hby at_98) ?_
              show Steps p.tables e below (T113.setTop (mkF m 99 #[.val (.int p0), .val (.int p1), .val (.int p2), .val (.int sz), .val (.int kv), .val (.int (own_b (¬ ((p2 &&& (2 : Int32)) = (0 : Int32))))), .val (.ref b9), .unset] [(.int (3 : Int32)), (.int kv)])) _
              refine XS.icmpYes X113.here hx rfl (pc0 := 99) (pc' := 107) rfl (hb hby at_99) rfl (flt (own_no hc119 (by decide))).2.2.2 (by decide) (by decide) ?_
              show Steps p.tables e below (T113.setTop (mkF m 107 #[.val (.int p0), .val (.int p1), .val (.int p2), .val (.int sz), .val (.int kv), .val (.int (own_b (¬ ((p2 &&& (2 : Int32)) = (0 : Int32))))), .val (.ref b9), .unset] [])) _
              refine XS.iload X113.here hx rfl (hb hby at_107) rfl  ?_
              show Steps p.tables e below (T113.setTop (mkF m 109 #[.val (.int p0), .val (.int p1), .val (.int p2), .val (.int sz), .val (.int kv), .val (.int (own_b (¬ ((p2 &&& (2 : Int32)) = (0 : Int32))))), .val (.ref b9), .unset] [(.int kv)])) _
              refine XS.iconst X113.here hx rfl (hb hby at_109) ?_
              show Steps p.tables e below (T113.setTop (mkF m 110 #[.val (.int p0), .val (.int p1), .val (.int p2), .val (.int sz), .val (.int kv), .val (.int (own_b (¬ ((p2 &&& (2 : Int32)) = (0 : Int32))))), .val (.ref b9), .unset] [(.int (4 : Int32)), (.int kv)])) _
              refine XS.icmpYes X113.here hx rfl (pc0 := 110) (pc' := 118) rfl (hb hby at_110) rfl (flt (own_no hc119 (by decide))).2.2.2 (by decide) (by decide) ?_
              show Steps p.tables e below (T113.setTop (mkF m 118 #[.val (.int p0), .val (.int p1), .val (.int p2), .val (.int sz), .val (.int kv), .val (.int (own_b (¬ ((p2 &&& (2 : Int32)) = (0 : Int32))))), .val (.ref b9), .unset] [])) _
              refine XS.iload X113.here hx rfl (hb hby at_118) rfl  ?_
              show Steps p.tables e below (T113.setTop (mkF m 120 #[.val (.int p0), .val (.int p1), .val (.int p2), .val (.int sz), .val (.int kv), .val (.int (own_b (¬ ((p2 &&& (2 : Int32)) = (0 : Int32))))), .val (.ref b9), .unset] [(.int kv)])) _
              refine XS.iconst X113.here hx rfl (hb hby at_120) ?_
              show Steps p.tables e below (T113.setTop (mkF m 121 #[.val (.int p0), .val (.int p1), .val (.int p2), .val (.int sz), .val (.int kv), .val (.int (own_b (¬ ((p2 &&& (2 : Int32)) = (0 : Int32))))), .val (.ref b9), .unset] [(.int (5 : Int32)), (.int kv)])) _
              refine XS.icmpYes X113.here hx rfl (pc0 := 121) (pc' := 129) rfl (hb hby at_121) rfl (flt (own_no hc119 (by decide))).2.2.2 (by decide) (by decide) ?_
              show Steps p.tables e below (T113.setTop (mkF m 129 #[.val (.int p0), .val (.int p1), .val (.int p2), .val (.int sz), .val (.int kv), .val (.int (own_b (¬ ((p2 &&& (2 : Int32)) = (0 : Int32))))), .val (.ref b9), .unset] [])) _
              refine XS.iload X113.here hx rfl (hb hby at_129) rfl  ?_
              show Steps p.tables e below (T113.setTop (mkF m 131 #[.val (.int p0), .val (.int p1), .val (.int p2), .val (.int sz), .val (.int kv), .val (.int (own_b (¬ ((p2 &&& (2 : Int32)) = (0 : Int32))))), .val (.ref b9), .unset] [(.int kv)])) _
              refine XS.bipush X113.here hx rfl (hb hby at_131) ?_
              show Steps p.tables e below (T113.setTop (mkF m 133 #[.val (.int p0), .val (.int p1), .val (.int p2), .val (.int sz), .val (.int kv), .val (.int (own_b (¬ ((p2 &&& (2 : Int32)) = (0 : Int32))))), .val (.ref b9), .unset] [(.int (6 : Int32)), (.int kv)])) _
              refine XS.icmpYes X113.here hx rfl (pc0 := 133) (pc' := 141) rfl (hb hby at_133) rfl (flt (own_no hc119 (by decide))).2.2.2 (by decide) (by decide) ?_
              show Steps p.tables e below (T113.setTop (mkF m 141 #[.val (.int p0), .val (.int p1), .val (.int p2), .val (.int sz), .val (.int kv), .val (.int (own_b (¬ ((p2 &&& (2 : Int32)) = (0 : Int32))))), .val (.ref b9), .unset] [])) _
              refine XS.iload X113.here hx rfl (hb hby at_141) rfl  ?_
              show Steps p.tables e below (T113.setTop (mkF m 143 #[.val (.int p0), .val (.int p1), .val (.int p2), .val (.int sz), .val (.int kv), .val (.int (own_b (¬ ((p2 &&& (2 : Int32)) = (0 : Int32))))), .val (.ref b9), .unset] [(.int kv)])) _
              refine XS.iloadN X113.here hx rfl (hb hby at_143) rfl  ?_
              exact kZ)
            have pre180 : ∀ tZ, Steps p.tables e below (T113.setTop (mkF m 152 #[.val (.int p0), .val (.int p1), .val (.int p2), .val (.int sz), .val (.int kv), .val (.int (own_b (¬ ((p2 &&& (2 : Int32)) = (0 : Int32))))), .val (.ref b9), .unset] [(.int (own_b (¬ (kv < sz))))])) tZ → Steps p.tables e below (s₁.setTop (entryFrame m #[(.int p0), (.int p1), (.int p2)] maxLocals)) tZ := fun tZ kZ => pre178 tZ (by
              by_cases hc179 : kv < sz
              ·  -- yes
                show Steps p.tables e below (T113.setTop (mkF m 144 #[.val (.int p0), .val (.int p1), .val (.int p2), .val (.int sz), .val (.int kv), .val (.int (own_b (¬ ((p2 &&& (2 : Int32)) = (0 : Int32))))), .val (.ref b9), .unset] [(.int sz), (.int kv)])) _
                refine XS.icmpYes X113.here hx rfl (pc0 := 144) (pc' := 151) rfl (hb hby at_144) rfl (tlt hc179).1 (by decide) (by decide) ?_
                show Steps p.tables e below (T113.setTop (mkF m 151 #[.val (.int p0), .val (.int p1), .val (.int p2), .val (.int sz), .val (.int kv), .val (.int (own_b (¬ ((p2 &&& (2 : Int32)) = (0 : Int32))))), .val (.ref b9), .unset] [])) _
                refine XS.iconst X113.here hx rfl (hb hby at_151) ?_
                have ekZ : (own_b (¬ (kv < sz))) = (0 : Int32) := by first | (simp only [own_b, eq_true hc179, and_true, true_and, and_false, false_and, or_true, true_or, or_false, false_or, not_true_eq_false, not_false_eq_true, if_true, if_false, reduceIte]; done) | (simp [own_b, hc179]; done)
                rw [ekZ] at kZ
                exact kZ
              ·  -- no
                show Steps p.tables e below (T113.setTop (mkF m 144 #[.val (.int p0), .val (.int p1), .val (.int p2), .val (.int sz), .val (.int kv), .val (.int (own_b (¬ ((p2 &&& (2 : Int32)) = (0 : Int32))))), .val (.ref b9), .unset] [(.int sz), (.int kv)])) _
                refine XS.icmpNo X113.here hx rfl (hb hby at_144) rfl (flt hc179).1 ?_
                show Steps p.tables e below (T113.setTop (mkF m 147 #[.val (.int p0), .val (.int p1), .val (.int p2), .val (.int sz), .val (.int kv), .val (.int (own_b (¬ ((p2 &&& (2 : Int32)) = (0 : Int32))))), .val (.ref b9), .unset] [])) _
                refine XS.iconst X113.here hx rfl (hb hby at_147) ?_
                show Steps p.tables e below (T113.setTop (mkF m 148 #[.val (.int p0), .val (.int p1), .val (.int p2), .val (.int sz), .val (.int kv), .val (.int (own_b (¬ ((p2 &&& (2 : Int32)) = (0 : Int32))))), .val (.ref b9), .unset] [(.int (1 : Int32))])) _
                refine XS.goto X113.here hx rfl (pc0 := 148) (pc' := 152) rfl (hb hby at_148) (by decide) (by decide) ?_
                have ekZ : (own_b (¬ (kv < sz))) = (1 : Int32) := by first | (simp only [own_b, eq_false hc179, and_true, true_and, and_false, false_and, or_true, true_or, or_false, false_or, not_true_eq_false, not_false_eq_true, if_true, if_false, reduceIte]; done) | (simp [own_b, hc179]; done)
                rw [ekZ] at kZ
                exact kZ)
            obtain ⟨cq181, kq181, q181a, q181b, q181c⟩ := isOf hZ rfl f113_0
            obtain ⟨_, _, ⟨T181, L181, k181, n181⟩, -, X181, ⟨Lc181, hQ181, l181, y181, z181⟩, st181⟩ := X113.virtualBack hx (y := (⟨oE, "full", "()Z"⟩ : MethodName)) (z := (⟨oE, "full", "()Z"⟩ : MethodName)) hown (mvT hZ (ow hw 91 rfl)) (mvT hZ (ow hw 92 rfl)) (notFace_of_selects (args := #[]) (mvT hZ (ow hw 94 rfl))) (mvT hZ (ow hw 94 rfl)) (mvT hZ (ow hw 93 rfl)) (by decide) (backOf (W := 0) (rm16 l Z a0 hw [] b9 sz (((0 : Int64) + (1 : Int64)) + (1 : Int64)) T113.heap n0 Z117 f113_2 f113_3) hZ (ow hw 95 rfl) (ow hw 7 rfl) (by decide) (by decide)) q181a q181c (g := (mkF m 156 #[.val (.int p0), .val (.int p1), .val (.int p2), .val (.int sz), .val (.int kv), .val (.int (own_b (¬ ((p2 &&& (2 : Int32)) = (0 : Int32))))), .val (.ref b9), .val (.int (own_b (¬ (kv < sz))))] [(.ref b9)])) rfl (by rw [hml]; rfl) (Steps.refl _) (argsL := []) (rest := []) (lenOf pd8 rfl) rfl (by show 2 * 0 + _ ≤ _; exact Nat.le_of_eq rfl) (hb hby at_156) (fun _ _ => ⟨rfl, rfl, (by decide : 3 + 0 ≤ _), (by decide : 8 + 0 ≤ _)⟩)
            dsimp only [Pt.U, Pt.locs, Pt.cells, Pt.slots] at X181 l181 y181 z181 st181 hQ181
            subst l181 y181 z181
            obtain ⟨rfl, N181q, e181⟩ := hQ181
            have N181 := Fr.app N113 N181q
            obtain ⟨fsZ, hrZ, hrun, hended, hW, hsame⟩ := X181.leave (v := some (.int (1 : Int32))) (fun h => by rw [Bd.returns] at h; cases h)
            refine ⟨_, _, pre180 _ ?_, hrun, hended, _, _, rfl, ?_, ⟨_, rfl⟩, hW, hsame.mono (by decide) (by decide)⟩
            · show Steps p.tables e below (T113.setTop (mkF m 152 #[.val (.int p0), .val (.int p1), .val (.int p2), .val (.int sz), .val (.int kv), .val (.int (own_b (¬ ((p2 &&& (2 : Int32)) = (0 : Int32))))), .val (.ref b9), .unset] [(.int (own_b (¬ (kv < sz))))])) _
              refine XS.istore X113.here hx rfl (hb hby at_152) rfl (l' := #[.val (.int p0), .val (.int p1), .val (.int p2), .val (.int sz), .val (.int kv), .val (.int (own_b (¬ ((p2 &&& (2 : Int32)) = (0 : Int32))))), .val (.ref b9), .val (.int (own_b (¬ (kv < sz))))]) rfl ?_
              show Steps p.tables e below (T113.setTop (mkF m 154 #[.val (.int p0), .val (.int p1), .val (.int p2), .val (.int sz), .val (.int kv), .val (.int (own_b (¬ ((p2 &&& (2 : Int32)) = (0 : Int32))))), .val (.ref b9), .val (.int (own_b (¬ (kv < sz))))] [])) _
              refine XS.aload X113.here hx rfl (hb hby at_154) rfl rfl ?_
              show Steps p.tables e below (T113.setTop (mkF m 156 #[.val (.int p0), .val (.int p1), .val (.int p2), .val (.int sz), .val (.int kv), .val (.int (own_b (¬ ((p2 &&& (2 : Int32)) = (0 : Int32))))), .val (.ref b9), .val (.int (own_b (¬ (kv < sz))))] [(.ref b9)])) _
              refine st181.trans ?_
              show Steps p.tables e below (T181.setTop (mkF m 159 #[.val (.int p0), .val (.int p1), .val (.int p2), .val (.int sz), .val (.int kv), .val (.int (own_b (¬ ((p2 &&& (2 : Int32)) = (0 : Int32))))), .val (.ref b9), .val (.int (own_b (¬ (kv < sz))))] [(.int (own_b (¬ ((((0 : Int64) + (1 : Int64)) + (1 : Int64)) < (sz.toInt64)))))])) _
              refine XS.iload X181.here hx rfl (hb hby at_159) rfl  ?_
              show Steps p.tables e below (T181.setTop (mkF m 161 #[.val (.int p0), .val (.int p1), .val (.int p2), .val (.int sz), .val (.int kv), .val (.int (own_b (¬ ((p2 &&& (2 : Int32)) = (0 : Int32))))), .val (.ref b9), .val (.int (own_b (¬ (kv < sz))))] [(.int (own_b (¬ (kv < sz)))), (.int (own_b (¬ ((((0 : Int64) + (1 : Int64)) + (1 : Int64)) < (sz.toInt64)))))])) _
              refine XS.icmpNo X181.here hx rfl (hb hby at_161) rfl (teq (own_fin 2 hsz (by decide) (own_eqk 2 (hc111) hc119 (by decide) (by decide)))).2 ?_
              show Steps p.tables e below (T181.setTop (mkF m 164 #[.val (.int p0), .val (.int p1), .val (.int p2), .val (.int sz), .val (.int kv), .val (.int (own_b (¬ ((p2 &&& (2 : Int32)) = (0 : Int32))))), .val (.ref b9), .val (.int (own_b (¬ (kv < sz))))] [])) _
              refine XS.iconst X181.here hx rfl (hb hby at_164) ?_
              show Steps p.tables e below (T181.setTop (mkF m 165 #[.val (.int p0), .val (.int p1), .val (.int p2), .val (.int sz), .val (.int kv), .val (.int (own_b (¬ ((p2 &&& (2 : Int32)) = (0 : Int32))))), .val (.ref b9), .val (.int (own_b (¬ (kv < sz))))] [(.int (1 : Int32))])) _
              refine XS.goto X181.here hx rfl (pc0 := 165) (pc' := 169) rfl (hb hby at_165) (by decide) (by decide) ?_
              show Steps p.tables e below (T181.setTop (mkF m 169 #[.val (.int p0), .val (.int p1), .val (.int p2), .val (.int sz), .val (.int kv), .val (.int (own_b (¬ ((p2 &&& (2 : Int32)) = (0 : Int32))))), .val (.ref b9), .val (.int (own_b (¬ (kv < sz))))] [(.int (1 : Int32))])) _
              exact retN X181 hx (t := .boolean) Bd.returns (by simp) (hb hby at_169) hrZ
            · show Q0 Z p0 p1 p2 h0 n0 _ T181.heap _
              rw [e181]
              exact ⟨rfl, N181⟩
        ·  -- no
          have pre182 : ∀ tZ, Steps p.tables e below (T21.setTop (mkF m 144 #[.val (.int p0), .val (.int p1), .val (.int p2), .val (.int sz), .val (.int kv), .val (.int (own_b (¬ ((p2 &&& (2 : Int32)) = (0 : Int32))))), .val (.ref b9), .unset] [(.int sz), (.int kv)])) tZ → Steps p.tables e below (s₁.setTop (entryFrame m #[(.int p0), (.int p1), (.int p2)] maxLocals)) tZ := fun tZ kZ => pre110 tZ (by
            show Steps p.tables e below (T21.setTop (mkF m 77 #[.val (.int p0), .val (.int p1), .val (.int p2), .val (.int sz), .val (.int kv), .val (.int (own_b (¬ ((p2 &&& (2 : Int32)) = (0 : Int32))))), .val (.ref b9), .unset] [(.int (1 : Int32)), (.int kv)])) _
            refine XS.icmpYes X21.here hx rfl (pc0 := 77) (pc' := 85) rfl (hb hby at_77) rfl (flt hc111).2.2.2 (by decide) (by decide) ?_
            show Steps p.tables e below (T21.setTop (mkF m 85 #[.val (.int p0), .val (.int p1), .val (.int p2), .val (.int sz), .val (.int kv), .val (.int (own_b (¬ ((p2 &&& (2 : Int32)) = (0 : Int32))))), .val (.ref b9), .unset] [])) _
            refine XS.iload X21.here hx rfl (hb hby at_85) rfl  ?_
            show Steps p.tables e below (T21.setTop (mkF m 87 #[.val (.int p0), .val (.int p1), .val (.int p2), .val (.int sz), .val (.int kv), .val (.int (own_b (¬ ((p2 &&& (2 : Int32)) = (0 : Int32))))), .val (.ref b9), .unset] [(.int kv)])) _
            refine XS.iconst X21.here hx rfl (hb hby at_87) ?_
            show Steps p.tables e below (T21.setTop (mkF m 88 #[.val (.int p0), .val (.int p1), .val (.int p2), .val (.int sz), .val (.int kv), .val (.int (own_b (¬ ((p2 &&& (2 : Int32)) = (0 : Int32))))), .val (.ref b9), .unset] [(.int (2 : Int32)), (.int kv)])) _
            refine XS.icmpYes X21.here hx rfl (pc0 := 88) (pc' := 96) rfl (hb hby at_88) rfl (flt (own_no hc111 (by decide))).2.2.2 (by decide) (by decide) ?_
            show Steps p.tables e below (T21.setTop (mkF m 96 #[.val (.int p0), .val (.int p1), .val (.int p2), .val (.int sz), .val (.int kv), .val (.int (own_b (¬ ((p2 &&& (2 : Int32)) = (0 : Int32))))), .val (.ref b9), .unset] [])) _
            refine XS.iload X21.here hx rfl (hb hby at_96) rfl  ?_
            show Steps p.tables e below (T21.setTop (mkF m 98 #[.val (.int p0), .val (.int p1), .val (.int p2), .val (.int sz), .val (.int kv), .val (.int (own_b (¬ ((p2 &&& (2 : Int32)) = (0 : Int32))))), .val (.ref b9), .unset] [(.int kv)])) _
            refine XS.iconst X21.here hx rfl (hb hby at_98) ?_
            show Steps p.tables e below (T21.setTop (mkF m 99 #[.val (.int p0), .val (.int p1), .val (.int p2), .val (.int sz), .val (.int kv), .val (.int (own_b (¬ ((p2 &&& (2 : Int32)) = (0 : Int32))))), .val (.ref b9), .unset] [(.int (3 : Int32)), (.int kv)])) _
            refine XS.icmpYes X21.here hx rfl (pc0 := 99) (pc' := 107) rfl (hb hby at_99) rfl (flt (own_no hc111 (by decide))).2.2.2 (by decide) (by decide) ?_
            show Steps p.tables e below (T21.setTop (mkF m 107 #[.val (.int p0), .val (.int p1), .val (.int p2), .val (.int sz), .val (.int kv), .val (.int (own_b (¬ ((p2 &&& (2 : Int32)) = (0 : Int32))))), .val (.ref b9), .unset] [])) _
            refine XS.iload X21.here hx rfl (hb hby at_107) rfl  ?_
            show Steps p.tables e below (T21.setTop (mkF m 109 #[.val (.int p0), .val (.int p1), .val (.int p2), .val (.int sz), .val (.int kv), .val (.int (own_b (¬ ((p2 &&& (2 : Int32)) = (0 : Int32))))), .val (.ref b9), .unset] [(.int kv)])) _
            refine XS.iconst X21.here hx rfl (hb hby at_109) ?_
            show Steps p.tables e below (T21.setTop (mkF m 110 #[.val (.int p0), .val (.int p1), .val (.int p2), .val (.int sz), .val (.int kv), .val (.int (own_b (¬ ((p2 &&& (2 : Int32)) = (0 : Int32))))), .val (.ref b9), .unset] [(.int (4 : Int32)), (.int kv)])) _
            refine XS.icmpYes X21.here hx rfl (pc0 := 110) (pc' := 118) rfl (hb hby at_110) rfl (flt (own_no hc111 (by decide))).2.2.2 (by decide) (by decide) ?_
            show Steps p.tables e below (T21.setTop (mkF m 118 #[.val (.int p0), .val (.int p1), .val (.int p2), .val (.int sz), .val (.int kv), .val (.int (own_b (¬ ((p2 &&& (2 : Int32)) = (0 : Int32))))), .val (.ref b9), .unset] [])) _
            refine XS.iload X21.here hx rfl (hb hby at_118) rfl  ?_
            show Steps p.tables e below (T21.setTop (mkF m 120 #[.val (.int p0), .val (.int p1), .val (.int p2), .val (.int sz), .val (.int kv), .val (.int (own_b (¬ ((p2 &&& (2 : Int32)) = (0 : Int32))))), .val (.ref b9), .unset] [(.int kv)])) _
            refine XS.iconst X21.here hx rfl (hb hby at_120) ?_
            show Steps p.tables e below (T21.setTop (mkF m 121 #[.val (.int p0), .val (.int p1), .val (.int p2), .val (.int sz), .val (.int kv), .val (.int (own_b (¬ ((p2 &&& (2 : Int32)) = (0 : Int32))))), .val (.ref b9), .unset] [(.int (5 : Int32)), (.int kv)])) _
            refine XS.icmpYes X21.here hx rfl (pc0 := 121) (pc' := 129) rfl (hb hby at_121) rfl (flt (own_no hc111 (by decide))).2.2.2 (by decide) (by decide) ?_
            show Steps p.tables e below (T21.setTop (mkF m 129 #[.val (.int p0), .val (.int p1), .val (.int p2), .val (.int sz), .val (.int kv), .val (.int (own_b (¬ ((p2 &&& (2 : Int32)) = (0 : Int32))))), .val (.ref b9), .unset] [])) _
            refine XS.iload X21.here hx rfl (hb hby at_129) rfl  ?_
            show Steps p.tables e below (T21.setTop (mkF m 131 #[.val (.int p0), .val (.int p1), .val (.int p2), .val (.int sz), .val (.int kv), .val (.int (own_b (¬ ((p2 &&& (2 : Int32)) = (0 : Int32))))), .val (.ref b9), .unset] [(.int kv)])) _
            refine XS.bipush X21.here hx rfl (hb hby at_131) ?_
            show Steps p.tables e below (T21.setTop (mkF m 133 #[.val (.int p0), .val (.int p1), .val (.int p2), .val (.int sz), .val (.int kv), .val (.int (own_b (¬ ((p2 &&& (2 : Int32)) = (0 : Int32))))), .val (.ref b9), .unset] [(.int (6 : Int32)), (.int kv)])) _
            refine XS.icmpYes X21.here hx rfl (pc0 := 133) (pc' := 141) rfl (hb hby at_133) rfl (flt (own_no hc111 (by decide))).2.2.2 (by decide) (by decide) ?_
            show Steps p.tables e below (T21.setTop (mkF m 141 #[.val (.int p0), .val (.int p1), .val (.int p2), .val (.int sz), .val (.int kv), .val (.int (own_b (¬ ((p2 &&& (2 : Int32)) = (0 : Int32))))), .val (.ref b9), .unset] [])) _
            refine XS.iload X21.here hx rfl (hb hby at_141) rfl  ?_
            show Steps p.tables e below (T21.setTop (mkF m 143 #[.val (.int p0), .val (.int p1), .val (.int p2), .val (.int sz), .val (.int kv), .val (.int (own_b (¬ ((p2 &&& (2 : Int32)) = (0 : Int32))))), .val (.ref b9), .unset] [(.int kv)])) _
            refine XS.iloadN X21.here hx rfl (hb hby at_143) rfl  ?_
            exact kZ)
          have pre184 : ∀ tZ, Steps p.tables e below (T21.setTop (mkF m 152 #[.val (.int p0), .val (.int p1), .val (.int p2), .val (.int sz), .val (.int kv), .val (.int (own_b (¬ ((p2 &&& (2 : Int32)) = (0 : Int32))))), .val (.ref b9), .unset] [(.int (own_b (¬ (kv < sz))))])) tZ → Steps p.tables e below (s₁.setTop (entryFrame m #[(.int p0), (.int p1), (.int p2)] maxLocals)) tZ := fun tZ kZ => pre182 tZ (by
            by_cases hc183 : kv < sz
            ·  -- yes
              show Steps p.tables e below (T21.setTop (mkF m 144 #[.val (.int p0), .val (.int p1), .val (.int p2), .val (.int sz), .val (.int kv), .val (.int (own_b (¬ ((p2 &&& (2 : Int32)) = (0 : Int32))))), .val (.ref b9), .unset] [(.int sz), (.int kv)])) _
              refine XS.icmpYes X21.here hx rfl (pc0 := 144) (pc' := 151) rfl (hb hby at_144) rfl (tlt hc183).1 (by decide) (by decide) ?_
              show Steps p.tables e below (T21.setTop (mkF m 151 #[.val (.int p0), .val (.int p1), .val (.int p2), .val (.int sz), .val (.int kv), .val (.int (own_b (¬ ((p2 &&& (2 : Int32)) = (0 : Int32))))), .val (.ref b9), .unset] [])) _
              refine XS.iconst X21.here hx rfl (hb hby at_151) ?_
              have ekZ : (own_b (¬ (kv < sz))) = (0 : Int32) := by first | (simp only [own_b, eq_true hc183, and_true, true_and, and_false, false_and, or_true, true_or, or_false, false_or, not_true_eq_false, not_false_eq_true, if_true, if_false, reduceIte]; done) | (simp [own_b, hc183]; done)
              rw [ekZ] at kZ
              exact kZ
            ·  -- no
              show Steps p.tables e below (T21.setTop (mkF m 144 #[.val (.int p0), .val (.int p1), .val (.int p2), .val (.int sz), .val (.int kv), .val (.int (own_b (¬ ((p2 &&& (2 : Int32)) = (0 : Int32))))), .val (.ref b9), .unset] [(.int sz), (.int kv)])) _
              refine XS.icmpNo X21.here hx rfl (hb hby at_144) rfl (flt hc183).1 ?_
              show Steps p.tables e below (T21.setTop (mkF m 147 #[.val (.int p0), .val (.int p1), .val (.int p2), .val (.int sz), .val (.int kv), .val (.int (own_b (¬ ((p2 &&& (2 : Int32)) = (0 : Int32))))), .val (.ref b9), .unset] [])) _
              refine XS.iconst X21.here hx rfl (hb hby at_147) ?_
              show Steps p.tables e below (T21.setTop (mkF m 148 #[.val (.int p0), .val (.int p1), .val (.int p2), .val (.int sz), .val (.int kv), .val (.int (own_b (¬ ((p2 &&& (2 : Int32)) = (0 : Int32))))), .val (.ref b9), .unset] [(.int (1 : Int32))])) _
              refine XS.goto X21.here hx rfl (pc0 := 148) (pc' := 152) rfl (hb hby at_148) (by decide) (by decide) ?_
              have ekZ : (own_b (¬ (kv < sz))) = (1 : Int32) := by first | (simp only [own_b, eq_false hc183, and_true, true_and, and_false, false_and, or_true, true_or, or_false, false_or, not_true_eq_false, not_false_eq_true, if_true, if_false, reduceIte]; done) | (simp [own_b, hc183]; done)
              rw [ekZ] at kZ
              exact kZ)
          obtain ⟨cq185, kq185, q185a, q185b, q185c⟩ := isOf hZ rfl f21_0
          obtain ⟨_, _, ⟨T185, L185, k185, n185⟩, -, X185, ⟨Lc185, hQ185, l185, y185, z185⟩, st185⟩ := X21.virtualBack hx (y := (⟨oE, "full", "()Z"⟩ : MethodName)) (z := (⟨oE, "full", "()Z"⟩ : MethodName)) hown (mvT hZ (ow hw 91 rfl)) (mvT hZ (ow hw 92 rfl)) (notFace_of_selects (args := #[]) (mvT hZ (ow hw 94 rfl))) (mvT hZ (ow hw 94 rfl)) (mvT hZ (ow hw 93 rfl)) (by decide) (backOf (W := 0) (rm16 l Z a0 hw [] b9 sz ((0 : Int64) + (1 : Int64)) T21.heap n0 Z25 f21_2 f21_3) hZ (ow hw 95 rfl) (ow hw 7 rfl) (by decide) (by decide)) q185a q185c (g := (mkF m 156 #[.val (.int p0), .val (.int p1), .val (.int p2), .val (.int sz), .val (.int kv), .val (.int (own_b (¬ ((p2 &&& (2 : Int32)) = (0 : Int32))))), .val (.ref b9), .val (.int (own_b (¬ (kv < sz))))] [(.ref b9)])) rfl (by rw [hml]; rfl) (Steps.refl _) (argsL := []) (rest := []) (lenOf pd8 rfl) rfl (by show 2 * 0 + _ ≤ _; exact Nat.le_of_eq rfl) (hb hby at_156) (fun _ _ => ⟨rfl, rfl, (by decide : 3 + 0 ≤ _), (by decide : 8 + 0 ≤ _)⟩)
          dsimp only [Pt.U, Pt.locs, Pt.cells, Pt.slots] at X185 l185 y185 z185 st185 hQ185
          subst l185 y185 z185
          obtain ⟨rfl, N185q, e185⟩ := hQ185
          have N185 := Fr.app N21 N185q
          obtain ⟨fsZ, hrZ, hrun, hended, hW, hsame⟩ := X185.leave (v := some (.int (1 : Int32))) (fun h => by rw [Bd.returns] at h; cases h)
          refine ⟨_, _, pre184 _ ?_, hrun, hended, _, _, rfl, ?_, ⟨_, rfl⟩, hW, hsame.mono (by decide) (by decide)⟩
          · show Steps p.tables e below (T21.setTop (mkF m 152 #[.val (.int p0), .val (.int p1), .val (.int p2), .val (.int sz), .val (.int kv), .val (.int (own_b (¬ ((p2 &&& (2 : Int32)) = (0 : Int32))))), .val (.ref b9), .unset] [(.int (own_b (¬ (kv < sz))))])) _
            refine XS.istore X21.here hx rfl (hb hby at_152) rfl (l' := #[.val (.int p0), .val (.int p1), .val (.int p2), .val (.int sz), .val (.int kv), .val (.int (own_b (¬ ((p2 &&& (2 : Int32)) = (0 : Int32))))), .val (.ref b9), .val (.int (own_b (¬ (kv < sz))))]) rfl ?_
            show Steps p.tables e below (T21.setTop (mkF m 154 #[.val (.int p0), .val (.int p1), .val (.int p2), .val (.int sz), .val (.int kv), .val (.int (own_b (¬ ((p2 &&& (2 : Int32)) = (0 : Int32))))), .val (.ref b9), .val (.int (own_b (¬ (kv < sz))))] [])) _
            refine XS.aload X21.here hx rfl (hb hby at_154) rfl rfl ?_
            show Steps p.tables e below (T21.setTop (mkF m 156 #[.val (.int p0), .val (.int p1), .val (.int p2), .val (.int sz), .val (.int kv), .val (.int (own_b (¬ ((p2 &&& (2 : Int32)) = (0 : Int32))))), .val (.ref b9), .val (.int (own_b (¬ (kv < sz))))] [(.ref b9)])) _
            refine st185.trans ?_
            show Steps p.tables e below (T185.setTop (mkF m 159 #[.val (.int p0), .val (.int p1), .val (.int p2), .val (.int sz), .val (.int kv), .val (.int (own_b (¬ ((p2 &&& (2 : Int32)) = (0 : Int32))))), .val (.ref b9), .val (.int (own_b (¬ (kv < sz))))] [(.int (own_b (¬ (((0 : Int64) + (1 : Int64)) < (sz.toInt64)))))])) _
            refine XS.iload X185.here hx rfl (hb hby at_159) rfl  ?_
            show Steps p.tables e below (T185.setTop (mkF m 161 #[.val (.int p0), .val (.int p1), .val (.int p2), .val (.int sz), .val (.int kv), .val (.int (own_b (¬ ((p2 &&& (2 : Int32)) = (0 : Int32))))), .val (.ref b9), .val (.int (own_b (¬ (kv < sz))))] [(.int (own_b (¬ (kv < sz)))), (.int (own_b (¬ (((0 : Int64) + (1 : Int64)) < (sz.toInt64)))))])) _
            refine XS.icmpNo X185.here hx rfl (hb hby at_161) rfl (teq (own_fin 1 hsz (by decide) (own_eqk 1 (hc19) hc111 (by decide) (by decide)))).2 ?_
            show Steps p.tables e below (T185.setTop (mkF m 164 #[.val (.int p0), .val (.int p1), .val (.int p2), .val (.int sz), .val (.int kv), .val (.int (own_b (¬ ((p2 &&& (2 : Int32)) = (0 : Int32))))), .val (.ref b9), .val (.int (own_b (¬ (kv < sz))))] [])) _
            refine XS.iconst X185.here hx rfl (hb hby at_164) ?_
            show Steps p.tables e below (T185.setTop (mkF m 165 #[.val (.int p0), .val (.int p1), .val (.int p2), .val (.int sz), .val (.int kv), .val (.int (own_b (¬ ((p2 &&& (2 : Int32)) = (0 : Int32))))), .val (.ref b9), .val (.int (own_b (¬ (kv < sz))))] [(.int (1 : Int32))])) _
            refine XS.goto X185.here hx rfl (pc0 := 165) (pc' := 169) rfl (hb hby at_165) (by decide) (by decide) ?_
            show Steps p.tables e below (T185.setTop (mkF m 169 #[.val (.int p0), .val (.int p1), .val (.int p2), .val (.int sz), .val (.int kv), .val (.int (own_b (¬ ((p2 &&& (2 : Int32)) = (0 : Int32))))), .val (.ref b9), .val (.int (own_b (¬ (kv < sz))))] [(.int (1 : Int32))])) _
            exact retN X185 hx (t := .boolean) Bd.returns (by simp) (hb hby at_169) hrZ
          · show Q0 Z p0 p1 p2 h0 n0 _ T185.heap _
            rw [e185]
            exact ⟨rfl, N185⟩
    ·  -- no
      have pre186 : ∀ tZ, Steps p.tables e below (T11.setTop (mkF m 144 #[.val (.int p0), .val (.int p1), .val (.int p2), .val (.int sz), .val (.int kv), .val (.int (own_b (¬ ((p2 &&& (2 : Int32)) = (0 : Int32))))), .val (.ref b9), .unset] [(.int sz), (.int kv)])) tZ → Steps p.tables e below (s₁.setTop (entryFrame m #[(.int p0), (.int p1), (.int p2)] maxLocals)) tZ := fun tZ kZ => pre18 tZ (by
        show Steps p.tables e below (T11.setTop (mkF m 56 #[.val (.int p0), .val (.int p1), .val (.int p2), .val (.int sz), .val (.int kv), .val (.int (own_b (¬ ((p2 &&& (2 : Int32)) = (0 : Int32))))), .val (.ref b9), .unset] [(.int kv)])) _
        refine XS.ifYes X11.here hx rfl (pc0 := 56) (pc' := 74) rfl (hb hby at_56) rfl ((if0 _ _).trans (flt hc19).2.2.2) (by decide) (by decide) ?_
        show Steps p.tables e below (T11.setTop (mkF m 74 #[.val (.int p0), .val (.int p1), .val (.int p2), .val (.int sz), .val (.int kv), .val (.int (own_b (¬ ((p2 &&& (2 : Int32)) = (0 : Int32))))), .val (.ref b9), .unset] [])) _
        refine XS.iload X11.here hx rfl (hb hby at_74) rfl  ?_
        show Steps p.tables e below (T11.setTop (mkF m 76 #[.val (.int p0), .val (.int p1), .val (.int p2), .val (.int sz), .val (.int kv), .val (.int (own_b (¬ ((p2 &&& (2 : Int32)) = (0 : Int32))))), .val (.ref b9), .unset] [(.int kv)])) _
        refine XS.iconst X11.here hx rfl (hb hby at_76) ?_
        show Steps p.tables e below (T11.setTop (mkF m 77 #[.val (.int p0), .val (.int p1), .val (.int p2), .val (.int sz), .val (.int kv), .val (.int (own_b (¬ ((p2 &&& (2 : Int32)) = (0 : Int32))))), .val (.ref b9), .unset] [(.int (1 : Int32)), (.int kv)])) _
        refine XS.icmpYes X11.here hx rfl (pc0 := 77) (pc' := 85) rfl (hb hby at_77) rfl (flt (own_no hc19 (by decide))).2.2.2 (by decide) (by decide) ?_
        show Steps p.tables e below (T11.setTop (mkF m 85 #[.val (.int p0), .val (.int p1), .val (.int p2), .val (.int sz), .val (.int kv), .val (.int (own_b (¬ ((p2 &&& (2 : Int32)) = (0 : Int32))))), .val (.ref b9), .unset] [])) _
        refine XS.iload X11.here hx rfl (hb hby at_85) rfl  ?_
        show Steps p.tables e below (T11.setTop (mkF m 87 #[.val (.int p0), .val (.int p1), .val (.int p2), .val (.int sz), .val (.int kv), .val (.int (own_b (¬ ((p2 &&& (2 : Int32)) = (0 : Int32))))), .val (.ref b9), .unset] [(.int kv)])) _
        refine XS.iconst X11.here hx rfl (hb hby at_87) ?_
        show Steps p.tables e below (T11.setTop (mkF m 88 #[.val (.int p0), .val (.int p1), .val (.int p2), .val (.int sz), .val (.int kv), .val (.int (own_b (¬ ((p2 &&& (2 : Int32)) = (0 : Int32))))), .val (.ref b9), .unset] [(.int (2 : Int32)), (.int kv)])) _
        refine XS.icmpYes X11.here hx rfl (pc0 := 88) (pc' := 96) rfl (hb hby at_88) rfl (flt (own_no hc19 (by decide))).2.2.2 (by decide) (by decide) ?_
        show Steps p.tables e below (T11.setTop (mkF m 96 #[.val (.int p0), .val (.int p1), .val (.int p2), .val (.int sz), .val (.int kv), .val (.int (own_b (¬ ((p2 &&& (2 : Int32)) = (0 : Int32))))), .val (.ref b9), .unset] [])) _
        refine XS.iload X11.here hx rfl (hb hby at_96) rfl  ?_
        show Steps p.tables e below (T11.setTop (mkF m 98 #[.val (.int p0), .val (.int p1), .val (.int p2), .val (.int sz), .val (.int kv), .val (.int (own_b (¬ ((p2 &&& (2 : Int32)) = (0 : Int32))))), .val (.ref b9), .unset] [(.int kv)])) _
        refine XS.iconst X11.here hx rfl (hb hby at_98) ?_
        show Steps p.tables e below (T11.setTop (mkF m 99 #[.val (.int p0), .val (.int p1), .val (.int p2), .val (.int sz), .val (.int kv), .val (.int (own_b (¬ ((p2 &&& (2 : Int32)) = (0 : Int32))))), .val (.ref b9), .unset] [(.int (3 : Int32)), (.int kv)])) _
        refine XS.icmpYes X11.here hx rfl (pc0 := 99) (pc' := 107) rfl (hb hby at_99) rfl (flt (own_no hc19 (by decide))).2.2.2 (by decide) (by decide) ?_
        show Steps p.tables e below (T11.setTop (mkF m 107 #[.val (.int p0), .val (.int p1), .val (.int p2), .val (.int sz), .val (.int kv), .val (.int (own_b (¬ ((p2 &&& (2 : Int32)) = (0 : Int32))))), .val (.ref b9), .unset] [])) _
        refine XS.iload X11.here hx rfl (hb hby at_107) rfl  ?_
        show Steps p.tables e below (T11.setTop (mkF m 109 #[.val (.int p0), .val (.int p1), .val (.int p2), .val (.int sz), .val (.int kv), .val (.int (own_b (¬ ((p2 &&& (2 : Int32)) = (0 : Int32))))), .val (.ref b9), .unset] [(.int kv)])) _
        refine XS.iconst X11.here hx rfl (hb hby at_109) ?_
        show Steps p.tables e below (T11.setTop (mkF m 110 #[.val (.int p0), .val (.int p1), .val (.int p2), .val (.int sz), .val (.int kv), .val (.int (own_b (¬ ((p2 &&& (2 : Int32)) = (0 : Int32))))), .val (.ref b9), .unset] [(.int (4 : Int32)), (.int kv)])) _
        refine XS.icmpYes X11.here hx rfl (pc0 := 110) (pc' := 118) rfl (hb hby at_110) rfl (flt (own_no hc19 (by decide))).2.2.2 (by decide) (by decide) ?_
        show Steps p.tables e below (T11.setTop (mkF m 118 #[.val (.int p0), .val (.int p1), .val (.int p2), .val (.int sz), .val (.int kv), .val (.int (own_b (¬ ((p2 &&& (2 : Int32)) = (0 : Int32))))), .val (.ref b9), .unset] [])) _
        refine XS.iload X11.here hx rfl (hb hby at_118) rfl  ?_
        show Steps p.tables e below (T11.setTop (mkF m 120 #[.val (.int p0), .val (.int p1), .val (.int p2), .val (.int sz), .val (.int kv), .val (.int (own_b (¬ ((p2 &&& (2 : Int32)) = (0 : Int32))))), .val (.ref b9), .unset] [(.int kv)])) _
        refine XS.iconst X11.here hx rfl (hb hby at_120) ?_
        show Steps p.tables e below (T11.setTop (mkF m 121 #[.val (.int p0), .val (.int p1), .val (.int p2), .val (.int sz), .val (.int kv), .val (.int (own_b (¬ ((p2 &&& (2 : Int32)) = (0 : Int32))))), .val (.ref b9), .unset] [(.int (5 : Int32)), (.int kv)])) _
        refine XS.icmpYes X11.here hx rfl (pc0 := 121) (pc' := 129) rfl (hb hby at_121) rfl (flt (own_no hc19 (by decide))).2.2.2 (by decide) (by decide) ?_
        show Steps p.tables e below (T11.setTop (mkF m 129 #[.val (.int p0), .val (.int p1), .val (.int p2), .val (.int sz), .val (.int kv), .val (.int (own_b (¬ ((p2 &&& (2 : Int32)) = (0 : Int32))))), .val (.ref b9), .unset] [])) _
        refine XS.iload X11.here hx rfl (hb hby at_129) rfl  ?_
        show Steps p.tables e below (T11.setTop (mkF m 131 #[.val (.int p0), .val (.int p1), .val (.int p2), .val (.int sz), .val (.int kv), .val (.int (own_b (¬ ((p2 &&& (2 : Int32)) = (0 : Int32))))), .val (.ref b9), .unset] [(.int kv)])) _
        refine XS.bipush X11.here hx rfl (hb hby at_131) ?_
        show Steps p.tables e below (T11.setTop (mkF m 133 #[.val (.int p0), .val (.int p1), .val (.int p2), .val (.int sz), .val (.int kv), .val (.int (own_b (¬ ((p2 &&& (2 : Int32)) = (0 : Int32))))), .val (.ref b9), .unset] [(.int (6 : Int32)), (.int kv)])) _
        refine XS.icmpYes X11.here hx rfl (pc0 := 133) (pc' := 141) rfl (hb hby at_133) rfl (flt (own_no hc19 (by decide))).2.2.2 (by decide) (by decide) ?_
        show Steps p.tables e below (T11.setTop (mkF m 141 #[.val (.int p0), .val (.int p1), .val (.int p2), .val (.int sz), .val (.int kv), .val (.int (own_b (¬ ((p2 &&& (2 : Int32)) = (0 : Int32))))), .val (.ref b9), .unset] [])) _
        refine XS.iload X11.here hx rfl (hb hby at_141) rfl  ?_
        show Steps p.tables e below (T11.setTop (mkF m 143 #[.val (.int p0), .val (.int p1), .val (.int p2), .val (.int sz), .val (.int kv), .val (.int (own_b (¬ ((p2 &&& (2 : Int32)) = (0 : Int32))))), .val (.ref b9), .unset] [(.int kv)])) _
        refine XS.iloadN X11.here hx rfl (hb hby at_143) rfl  ?_
        exact kZ)
      have pre188 : ∀ tZ, Steps p.tables e below (T11.setTop (mkF m 152 #[.val (.int p0), .val (.int p1), .val (.int p2), .val (.int sz), .val (.int kv), .val (.int (own_b (¬ ((p2 &&& (2 : Int32)) = (0 : Int32))))), .val (.ref b9), .unset] [(.int (own_b (¬ (kv < sz))))])) tZ → Steps p.tables e below (s₁.setTop (entryFrame m #[(.int p0), (.int p1), (.int p2)] maxLocals)) tZ := fun tZ kZ => pre186 tZ (by
        by_cases hc187 : kv < sz
        ·  -- yes
          show Steps p.tables e below (T11.setTop (mkF m 144 #[.val (.int p0), .val (.int p1), .val (.int p2), .val (.int sz), .val (.int kv), .val (.int (own_b (¬ ((p2 &&& (2 : Int32)) = (0 : Int32))))), .val (.ref b9), .unset] [(.int sz), (.int kv)])) _
          refine XS.icmpYes X11.here hx rfl (pc0 := 144) (pc' := 151) rfl (hb hby at_144) rfl (tlt hc187).1 (by decide) (by decide) ?_
          show Steps p.tables e below (T11.setTop (mkF m 151 #[.val (.int p0), .val (.int p1), .val (.int p2), .val (.int sz), .val (.int kv), .val (.int (own_b (¬ ((p2 &&& (2 : Int32)) = (0 : Int32))))), .val (.ref b9), .unset] [])) _
          refine XS.iconst X11.here hx rfl (hb hby at_151) ?_
          have ekZ : (own_b (¬ (kv < sz))) = (0 : Int32) := by first | (simp only [own_b, eq_true hc187, and_true, true_and, and_false, false_and, or_true, true_or, or_false, false_or, not_true_eq_false, not_false_eq_true, if_true, if_false, reduceIte]; done) | (simp [own_b, hc187]; done)
          rw [ekZ] at kZ
          exact kZ
        ·  -- no
          show Steps p.tables e below (T11.setTop (mkF m 144 #[.val (.int p0), .val (.int p1), .val (.int p2), .val (.int sz), .val (.int kv), .val (.int (own_b (¬ ((p2 &&& (2 : Int32)) = (0 : Int32))))), .val (.ref b9), .unset] [(.int sz), (.int kv)])) _
          refine XS.icmpNo X11.here hx rfl (hb hby at_144) rfl (flt hc187).1 ?_
          show Steps p.tables e below (T11.setTop (mkF m 147 #[.val (.int p0), .val (.int p1), .val (.int p2), .val (.int sz), .val (.int kv), .val (.int (own_b (¬ ((p2 &&& (2 : Int32)) = (0 : Int32))))), .val (.ref b9), .unset] [])) _
          refine XS.iconst X11.here hx rfl (hb hby at_147) ?_
          show Steps p.tables e below (T11.setTop (mkF m 148 #[.val (.int p0), .val (.int p1), .val (.int p2), .val (.int sz), .val (.int kv), .val (.int (own_b (¬ ((p2 &&& (2 : Int32)) = (0 : Int32))))), .val (.ref b9), .unset] [(.int (1 : Int32))])) _
          refine XS.goto X11.here hx rfl (pc0 := 148) (pc' := 152) rfl (hb hby at_148) (by decide) (by decide) ?_
          have ekZ : (own_b (¬ (kv < sz))) = (1 : Int32) := by first | (simp only [own_b, eq_false hc187, and_true, true_and, and_false, false_and, or_true, true_or, or_false, false_or, not_true_eq_false, not_false_eq_true, if_true, if_false, reduceIte]; done) | (simp [own_b, hc187]; done)
          rw [ekZ] at kZ
          exact kZ)
      obtain ⟨cq189, kq189, q189a, q189b, q189c⟩ := isOf hZ rfl f11_0
      obtain ⟨_, _, ⟨T189, L189, k189, n189⟩, -, X189, ⟨Lc189, hQ189, l189, y189, z189⟩, st189⟩ := X11.virtualBack hx (y := (⟨oE, "full", "()Z"⟩ : MethodName)) (z := (⟨oE, "full", "()Z"⟩ : MethodName)) hown (mvT hZ (ow hw 91 rfl)) (mvT hZ (ow hw 92 rfl)) (notFace_of_selects (args := #[]) (mvT hZ (ow hw 94 rfl))) (mvT hZ (ow hw 94 rfl)) (mvT hZ (ow hw 93 rfl)) (by decide) (backOf (W := 0) (rm16 l Z a0 hw [] b9 sz (0 : Int64) T11.heap n0 Z15 f11_2 f11_3) hZ (ow hw 95 rfl) (ow hw 7 rfl) (by decide) (by decide)) q189a q189c (g := (mkF m 156 #[.val (.int p0), .val (.int p1), .val (.int p2), .val (.int sz), .val (.int kv), .val (.int (own_b (¬ ((p2 &&& (2 : Int32)) = (0 : Int32))))), .val (.ref b9), .val (.int (own_b (¬ (kv < sz))))] [(.ref b9)])) rfl (by rw [hml]; rfl) (Steps.refl _) (argsL := []) (rest := []) (lenOf pd8 rfl) rfl (by show 2 * 0 + _ ≤ _; exact Nat.le_of_eq rfl) (hb hby at_156) (fun _ _ => ⟨rfl, rfl, (by decide : 3 + 0 ≤ _), (by decide : 8 + 0 ≤ _)⟩)
      dsimp only [Pt.U, Pt.locs, Pt.cells, Pt.slots] at X189 l189 y189 z189 st189 hQ189
      subst l189 y189 z189
      obtain ⟨rfl, N189q, e189⟩ := hQ189
      have N189 := Fr.app N11 N189q
      obtain ⟨fsZ, hrZ, hrun, hended, hW, hsame⟩ := X189.leave (v := some (.int (1 : Int32))) (fun h => by rw [Bd.returns] at h; cases h)
      refine ⟨_, _, pre188 _ ?_, hrun, hended, _, _, rfl, ?_, ⟨_, rfl⟩, hW, hsame.mono (by decide) (by decide)⟩
      · show Steps p.tables e below (T11.setTop (mkF m 152 #[.val (.int p0), .val (.int p1), .val (.int p2), .val (.int sz), .val (.int kv), .val (.int (own_b (¬ ((p2 &&& (2 : Int32)) = (0 : Int32))))), .val (.ref b9), .unset] [(.int (own_b (¬ (kv < sz))))])) _
        refine XS.istore X11.here hx rfl (hb hby at_152) rfl (l' := #[.val (.int p0), .val (.int p1), .val (.int p2), .val (.int sz), .val (.int kv), .val (.int (own_b (¬ ((p2 &&& (2 : Int32)) = (0 : Int32))))), .val (.ref b9), .val (.int (own_b (¬ (kv < sz))))]) rfl ?_
        show Steps p.tables e below (T11.setTop (mkF m 154 #[.val (.int p0), .val (.int p1), .val (.int p2), .val (.int sz), .val (.int kv), .val (.int (own_b (¬ ((p2 &&& (2 : Int32)) = (0 : Int32))))), .val (.ref b9), .val (.int (own_b (¬ (kv < sz))))] [])) _
        refine XS.aload X11.here hx rfl (hb hby at_154) rfl rfl ?_
        show Steps p.tables e below (T11.setTop (mkF m 156 #[.val (.int p0), .val (.int p1), .val (.int p2), .val (.int sz), .val (.int kv), .val (.int (own_b (¬ ((p2 &&& (2 : Int32)) = (0 : Int32))))), .val (.ref b9), .val (.int (own_b (¬ (kv < sz))))] [(.ref b9)])) _
        refine st189.trans ?_
        show Steps p.tables e below (T189.setTop (mkF m 159 #[.val (.int p0), .val (.int p1), .val (.int p2), .val (.int sz), .val (.int kv), .val (.int (own_b (¬ ((p2 &&& (2 : Int32)) = (0 : Int32))))), .val (.ref b9), .val (.int (own_b (¬ (kv < sz))))] [(.int (own_b (¬ ((0 : Int64) < (sz.toInt64)))))])) _
        refine XS.iload X189.here hx rfl (hb hby at_159) rfl  ?_
        show Steps p.tables e below (T189.setTop (mkF m 161 #[.val (.int p0), .val (.int p1), .val (.int p2), .val (.int sz), .val (.int kv), .val (.int (own_b (¬ ((p2 &&& (2 : Int32)) = (0 : Int32))))), .val (.ref b9), .val (.int (own_b (¬ (kv < sz))))] [(.int (own_b (¬ (kv < sz)))), (.int (own_b (¬ ((0 : Int64) < (sz.toInt64)))))])) _
        refine XS.icmpNo X189.here hx rfl (hb hby at_161) rfl (teq (own_fin 0 hsz (by decide) (own_eqk 0 (own_k0 hkv) hc19 (by decide) (by decide)))).2 ?_
        show Steps p.tables e below (T189.setTop (mkF m 164 #[.val (.int p0), .val (.int p1), .val (.int p2), .val (.int sz), .val (.int kv), .val (.int (own_b (¬ ((p2 &&& (2 : Int32)) = (0 : Int32))))), .val (.ref b9), .val (.int (own_b (¬ (kv < sz))))] [])) _
        refine XS.iconst X189.here hx rfl (hb hby at_164) ?_
        show Steps p.tables e below (T189.setTop (mkF m 165 #[.val (.int p0), .val (.int p1), .val (.int p2), .val (.int sz), .val (.int kv), .val (.int (own_b (¬ ((p2 &&& (2 : Int32)) = (0 : Int32))))), .val (.ref b9), .val (.int (own_b (¬ (kv < sz))))] [(.int (1 : Int32))])) _
        refine XS.goto X189.here hx rfl (pc0 := 165) (pc' := 169) rfl (hb hby at_165) (by decide) (by decide) ?_
        show Steps p.tables e below (T189.setTop (mkF m 169 #[.val (.int p0), .val (.int p1), .val (.int p2), .val (.int sz), .val (.int kv), .val (.int (own_b (¬ ((p2 &&& (2 : Int32)) = (0 : Int32))))), .val (.ref b9), .val (.int (own_b (¬ (kv < sz))))] [(.int (1 : Int32))])) _
        exact retN X189 hx (t := .boolean) Bd.returns (by simp) (hb hby at_169) hrZ
      · show Q0 Z p0 p1 p2 h0 n0 _ T189.heap _
        rw [e189]
        exact ⟨rfl, N189⟩
  ·  -- no
    have pre190 : ∀ tZ, Steps p.tables e below (s₁.setTop (mkF m 25 #[.val (.int p0), .val (.int p1), .val (.int p2), .val (.int ((1 : Int32) + (p0 &&& (7 : Int32)))), .unset, .unset, .unset, .unset] [])) tZ → Steps p.tables e below (s₁.setTop (entryFrame m #[(.int p0), (.int p1), (.int p2)] maxLocals)) tZ := fun tZ kZ => pre1 tZ (by
      show Steps p.tables e below (s₁.setTop (mkF m 3 #[.val (.int p0), .val (.int p1), .val (.int p2), .unset, .unset, .unset, .unset, .unset] [(.int (p2 &&& (1 : Int32)))])) _
      refine XS.ifNo X0.here hx rfl (hb hby at_3) rfl ((if0 _ _).trans (feq hc2).1) ?_
      show Steps p.tables e below (s₁.setTop (mkF m 6 #[.val (.int p0), .val (.int p1), .val (.int p2), .unset, .unset, .unset, .unset, .unset] [])) _
      refine XS.iconst X0.here hx rfl (hb hby at_6) ?_
      show Steps p.tables e below (s₁.setTop (mkF m 7 #[.val (.int p0), .val (.int p1), .val (.int p2), .unset, .unset, .unset, .unset, .unset] [(.int (1 : Int32))])) _
      refine XS.iloadN X0.here hx rfl (hb hby at_7) rfl  ?_
      show Steps p.tables e below (s₁.setTop (mkF m 8 #[.val (.int p0), .val (.int p1), .val (.int p2), .unset, .unset, .unset, .unset, .unset] [(.int p0), (.int (1 : Int32))])) _
      refine XS.bipush X0.here hx rfl (hb hby at_8) ?_
      show Steps p.tables e below (s₁.setTop (mkF m 10 #[.val (.int p0), .val (.int p1), .val (.int p2), .unset, .unset, .unset, .unset, .unset] [(.int (7 : Int32)), (.int p0), (.int (1 : Int32))])) _
      refine XS.iand X0.here hx rfl (hb hby at_10) rfl ?_
      show Steps p.tables e below (s₁.setTop (mkF m 11 #[.val (.int p0), .val (.int p1), .val (.int p2), .unset, .unset, .unset, .unset, .unset] [(.int (p0 &&& (7 : Int32))), (.int (1 : Int32))])) _
      refine XS.iadd X0.here hx rfl (hb hby at_11) rfl ?_
      show Steps p.tables e below (s₁.setTop (mkF m 12 #[.val (.int p0), .val (.int p1), .val (.int p2), .unset, .unset, .unset, .unset, .unset] [(.int ((1 : Int32) + (p0 &&& (7 : Int32))))])) _
      refine XS.istoreN X0.here hx rfl (hb hby at_12) rfl (l' := #[.val (.int p0), .val (.int p1), .val (.int p2), .val (.int ((1 : Int32) + (p0 &&& (7 : Int32)))), .unset, .unset, .unset, .unset]) rfl ?_
      show Steps p.tables e below (s₁.setTop (mkF m 13 #[.val (.int p0), .val (.int p1), .val (.int p2), .val (.int ((1 : Int32) + (p0 &&& (7 : Int32)))), .unset, .unset, .unset, .unset] [])) _
      refine XS.goto X0.here hx rfl (pc0 := 13) (pc' := 25) rfl (hb hby at_13) (by decide) (by decide) ?_
      exact kZ)
    obtain ⟨sz, hszv⟩ : ∃ z, z = ((1 : Int32) + (p0 &&& (7 : Int32))) := ⟨_, rfl⟩
    rw [← hszv] at pre190
    have hsz : ¬ (sz < (1 : Int32)) := own_sz1 hszv
    have pre191 : ∀ tZ, Steps p.tables e below (s₁.setTop (mkF m 31 #[.val (.int p0), .val (.int p1), .val (.int p2), .val (.int sz), .val (.int (p1 &&& (7 : Int32))), .unset, .unset, .unset] [])) tZ → Steps p.tables e below (s₁.setTop (entryFrame m #[(.int p0), (.int p1), (.int p2)] maxLocals)) tZ := fun tZ kZ => pre190 tZ (by
      show Steps p.tables e below (s₁.setTop (mkF m 25 #[.val (.int p0), .val (.int p1), .val (.int p2), .val (.int sz), .unset, .unset, .unset, .unset] [])) _
      refine XS.iloadN X0.here hx rfl (hb hby at_25) rfl  ?_
      show Steps p.tables e below (s₁.setTop (mkF m 26 #[.val (.int p0), .val (.int p1), .val (.int p2), .val (.int sz), .unset, .unset, .unset, .unset] [(.int p1)])) _
      refine XS.bipush X0.here hx rfl (hb hby at_26) ?_
      show Steps p.tables e below (s₁.setTop (mkF m 28 #[.val (.int p0), .val (.int p1), .val (.int p2), .val (.int sz), .unset, .unset, .unset, .unset] [(.int (7 : Int32)), (.int p1)])) _
      refine XS.iand X0.here hx rfl (hb hby at_28) rfl ?_
      show Steps p.tables e below (s₁.setTop (mkF m 29 #[.val (.int p0), .val (.int p1), .val (.int p2), .val (.int sz), .unset, .unset, .unset, .unset] [(.int (p1 &&& (7 : Int32)))])) _
      refine XS.istore X0.here hx rfl (hb hby at_29) rfl (l' := #[.val (.int p0), .val (.int p1), .val (.int p2), .val (.int sz), .val (.int (p1 &&& (7 : Int32))), .unset, .unset, .unset]) rfl ?_
      exact kZ)
    obtain ⟨kv, hkv⟩ : ∃ z, z = (p1 &&& (7 : Int32)) := ⟨_, rfl⟩
    rw [← hkv] at pre191
    have pre192 : ∀ tZ, Steps p.tables e below (s₁.setTop (mkF m 34 #[.val (.int p0), .val (.int p1), .val (.int p2), .val (.int sz), .val (.int kv), .unset, .unset, .unset] [(.int (p2 &&& (2 : Int32)))])) tZ → Steps p.tables e below (s₁.setTop (entryFrame m #[(.int p0), (.int p1), (.int p2)] maxLocals)) tZ := fun tZ kZ => pre191 tZ (by
      show Steps p.tables e below (s₁.setTop (mkF m 31 #[.val (.int p0), .val (.int p1), .val (.int p2), .val (.int sz), .val (.int kv), .unset, .unset, .unset] [])) _
      refine XS.iloadN X0.here hx rfl (hb hby at_31) rfl  ?_
      show Steps p.tables e below (s₁.setTop (mkF m 32 #[.val (.int p0), .val (.int p1), .val (.int p2), .val (.int sz), .val (.int kv), .unset, .unset, .unset] [(.int p2)])) _
      refine XS.iconst X0.here hx rfl (hb hby at_32) ?_
      show Steps p.tables e below (s₁.setTop (mkF m 33 #[.val (.int p0), .val (.int p1), .val (.int p2), .val (.int sz), .val (.int kv), .unset, .unset, .unset] [(.int (2 : Int32)), (.int p2)])) _
      refine XS.iand X0.here hx rfl (hb hby at_33) rfl ?_
      exact kZ)
    have pre194 : ∀ tZ, Steps p.tables e below (s₁.setTop (mkF m 42 #[.val (.int p0), .val (.int p1), .val (.int p2), .val (.int sz), .val (.int kv), .unset, .unset, .unset] [(.int (own_b (¬ ((p2 &&& (2 : Int32)) = (0 : Int32)))))])) tZ → Steps p.tables e below (s₁.setTop (entryFrame m #[(.int p0), (.int p1), (.int p2)] maxLocals)) tZ := fun tZ kZ => pre192 tZ (by
      by_cases hc193 : (p2 &&& (2 : Int32)) = (0 : Int32)
      ·  -- yes
        show Steps p.tables e below (s₁.setTop (mkF m 34 #[.val (.int p0), .val (.int p1), .val (.int p2), .val (.int sz), .val (.int kv), .unset, .unset, .unset] [(.int (p2 &&& (2 : Int32)))])) _
        refine XS.ifYes X0.here hx rfl (pc0 := 34) (pc' := 41) rfl (hb hby at_34) rfl ((if0 _ _).trans (teq hc193).1) (by decide) (by decide) ?_
        show Steps p.tables e below (s₁.setTop (mkF m 41 #[.val (.int p0), .val (.int p1), .val (.int p2), .val (.int sz), .val (.int kv), .unset, .unset, .unset] [])) _
        refine XS.iconst X0.here hx rfl (hb hby at_41) ?_
        have ekZ : (own_b (¬ ((p2 &&& (2 : Int32)) = (0 : Int32)))) = (0 : Int32) := by first | (simp only [own_b, eq_true hc193, and_true, true_and, and_false, false_and, or_true, true_or, or_false, false_or, not_true_eq_false, not_false_eq_true, if_true, if_false, reduceIte]; done) | (simp [own_b, hc193]; done)
        rw [ekZ] at kZ
        exact kZ
      ·  -- no
        show Steps p.tables e below (s₁.setTop (mkF m 34 #[.val (.int p0), .val (.int p1), .val (.int p2), .val (.int sz), .val (.int kv), .unset, .unset, .unset] [(.int (p2 &&& (2 : Int32)))])) _
        refine XS.ifNo X0.here hx rfl (hb hby at_34) rfl ((if0 _ _).trans (feq hc193).1) ?_
        show Steps p.tables e below (s₁.setTop (mkF m 37 #[.val (.int p0), .val (.int p1), .val (.int p2), .val (.int sz), .val (.int kv), .unset, .unset, .unset] [])) _
        refine XS.iconst X0.here hx rfl (hb hby at_37) ?_
        show Steps p.tables e below (s₁.setTop (mkF m 38 #[.val (.int p0), .val (.int p1), .val (.int p2), .val (.int sz), .val (.int kv), .unset, .unset, .unset] [(.int (1 : Int32))])) _
        refine XS.goto X0.here hx rfl (pc0 := 38) (pc' := 42) rfl (hb hby at_38) (by decide) (by decide) ?_
        have ekZ : (own_b (¬ ((p2 &&& (2 : Int32)) = (0 : Int32)))) = (1 : Int32) := by first | (simp only [own_b, eq_false hc193, and_true, true_and, and_false, false_and, or_true, true_or, or_false, false_or, not_true_eq_false, not_false_eq_true, if_true, if_false, reduceIte]; done) | (simp [own_b, hc193]; done)
        rw [ekZ] at kZ
        exact kZ)
    obtain ⟨T195, h195, X195, e195, E195, A195, D195, -, st195⟩ := newO X0 hx hZ hown (ow hw 5 rfl) (ow hw 6 rfl) (ow hw 7 rfl) e0 (g := (mkF m 44 #[.val (.int p0), .val (.int p1), .val (.int p2), .val (.int sz), .val (.int kv), .val (.int (own_b (¬ ((p2 &&& (2 : Int32)) = (0 : Int32))))), .unset, .unset] [])) rfl (hb hby at_44) (by decide) (by decide)
    obtain ⟨b195, g195⟩ : ∃ z, z = h0.size := ⟨_, rfl⟩
    rw [← g195] at A195 D195 st195
    have gn_b195 : n0 ≤ b195 := Nat.le_trans Z0 (Nat.le_of_eq g195.symm)
    have Z196 : n0 ≤ h195.size := Nat.le_trans Z0 E195.1
    have F__marks_b195 : Fld Z h195 b195 oE "_marks" "Ljava/util/BitSet;" .null := D195 (Or.inr (ow hw 37 rfl)) (ty := (.object "java/util/BitSet")) (by decide)
    have F__size_b195 : Fld Z h195 b195 oE "_size" "I" (.int (0 : Int32)) := D195 (Or.inr (ow hw 39 rfl)) (ty := .int) (by decide)
    have F__taken_b195 : Fld Z h195 b195 oE "_taken" "J" (.long (0 : Int64)) := D195 (Or.inl (ow hw 46 rfl)) (ty := .long) (by decide)
    have F__marked_b195 : Fld Z h195 b195 oE "_marked" "I" (.int (0 : Int32)) := D195 (Or.inl (ow hw 79 rfl)) (ty := .int) (by decide)
    obtain ⟨_, _, ⟨T197, L197, k197, n197⟩, -, X197, ⟨Lc197, hQ197, l197, y197, z197⟩, st197⟩ := X195.specialBack hx (y := (⟨oE, "<init>", "(I)V"⟩ : MethodName)) rfl hown (mvT hZ (ow hw 8 rfl)) (mvT hZ (ow hw 9 rfl)) (mvT hZ (ow hw 10 rfl)) (by decide) (backOf (W := 1) (rm2 l Z a0 hw [] b195 sz .null (.int (0 : Int32)) h195 n0 Z196 A195 F__marks_b195 F__size_b195 F__taken_b195 F__marked_b195 gn_b195) hZ (ow hw 10 rfl) (ow hw 7 rfl) (by decide) (by decide)) (g := (mkF m 49 #[.val (.int p0), .val (.int p1), .val (.int p2), .val (.int sz), .val (.int kv), .val (.int (own_b (¬ ((p2 &&& (2 : Int32)) = (0 : Int32))))), .unset, .unset] [(.int sz), (.ref b195), (.ref b195)])) rfl (by rw [hml]; rfl) (Steps.refl _) (a := b195) (argsL := [(.int sz)]) (rest := [(.ref b195)]) (lenOf pd2 rfl) rfl (by show 2 * 0 + _ ≤ _; exact Nat.le_of_eq rfl) (hb hby at_49) (fun _ _ => ⟨rfl, e195, (by decide : 1 + 2 ≤ _), (by decide : 4 + 4 ≤ _)⟩)
    dsimp only [Pt.U, Pt.locs, Pt.cells, Pt.slots] at X197 l197 y197 z197 st197 hQ197
    subst l197 y197 z197
    obtain ⟨b_198, wa_199, kl_200, rfl, N197q, K197, u197_0, u197_1, u197_2, u197_3, u197_4, f197_0, f197_1, f197_2, f197_3, f197_4, f197_5, f197_6, f197_7, f197_8⟩ := hQ197
    have N197 := Fr.app N0 N197q
    have Z201 : n0 ≤ T197.heap.size := Nat.le_trans Z196 K197.1
    have ne202 : b195 ≠ b_198 := Nat.ne_of_lt (Nat.lt_of_lt_of_le A195.lt u197_1)
    have ne203 : b195 ≠ wa_199 := Nat.ne_of_lt (Nat.lt_of_lt_of_le A195.lt u197_3)
    have pre204 : ∀ tZ, Steps p.tables e below (T197.setTop (mkF m 56 #[.val (.int p0), .val (.int p1), .val (.int p2), .val (.int sz), .val (.int kv), .val (.int (own_b (¬ ((p2 &&& (2 : Int32)) = (0 : Int32))))), .val (.ref b195), .unset] [(.int kv)])) tZ → Steps p.tables e below (s₁.setTop (entryFrame m #[(.int p0), (.int p1), (.int p2)] maxLocals)) tZ := fun tZ kZ => pre194 tZ (by
      show Steps p.tables e below (s₁.setTop (mkF m 42 #[.val (.int p0), .val (.int p1), .val (.int p2), .val (.int sz), .val (.int kv), .unset, .unset, .unset] [(.int (own_b (¬ ((p2 &&& (2 : Int32)) = (0 : Int32)))))])) _
      refine XS.istore X0.here hx rfl (hb hby at_42) rfl (l' := #[.val (.int p0), .val (.int p1), .val (.int p2), .val (.int sz), .val (.int kv), .val (.int (own_b (¬ ((p2 &&& (2 : Int32)) = (0 : Int32))))), .unset, .unset]) rfl ?_
      show Steps p.tables e below (s₁.setTop (mkF m 44 #[.val (.int p0), .val (.int p1), .val (.int p2), .val (.int sz), .val (.int kv), .val (.int (own_b (¬ ((p2 &&& (2 : Int32)) = (0 : Int32))))), .unset, .unset] [])) _
      refine st195 _ ?_
      show Steps p.tables e below (T195.setTop (mkF m 47 #[.val (.int p0), .val (.int p1), .val (.int p2), .val (.int sz), .val (.int kv), .val (.int (own_b (¬ ((p2 &&& (2 : Int32)) = (0 : Int32))))), .unset, .unset] [(.ref b195)])) _
      refine XS.dup X195.here hx rfl (hb hby at_47) rfl rfl ?_
      show Steps p.tables e below (T195.setTop (mkF m 48 #[.val (.int p0), .val (.int p1), .val (.int p2), .val (.int sz), .val (.int kv), .val (.int (own_b (¬ ((p2 &&& (2 : Int32)) = (0 : Int32))))), .unset, .unset] [(.ref b195), (.ref b195)])) _
      refine XS.iloadN X195.here hx rfl (hb hby at_48) rfl  ?_
      show Steps p.tables e below (T195.setTop (mkF m 49 #[.val (.int p0), .val (.int p1), .val (.int p2), .val (.int sz), .val (.int kv), .val (.int (own_b (¬ ((p2 &&& (2 : Int32)) = (0 : Int32))))), .unset, .unset] [(.int sz), (.ref b195), (.ref b195)])) _
      refine st197.trans ?_
      show Steps p.tables e below (T197.setTop (mkF m 52 #[.val (.int p0), .val (.int p1), .val (.int p2), .val (.int sz), .val (.int kv), .val (.int (own_b (¬ ((p2 &&& (2 : Int32)) = (0 : Int32))))), .unset, .unset] [(.ref b195)])) _
      refine XS.astore X197.here hx rfl (hb hby at_52) rfl rfl (l' := #[.val (.int p0), .val (.int p1), .val (.int p2), .val (.int sz), .val (.int kv), .val (.int (own_b (¬ ((p2 &&& (2 : Int32)) = (0 : Int32))))), .val (.ref b195), .unset]) rfl ?_
      show Steps p.tables e below (T197.setTop (mkF m 54 #[.val (.int p0), .val (.int p1), .val (.int p2), .val (.int sz), .val (.int kv), .val (.int (own_b (¬ ((p2 &&& (2 : Int32)) = (0 : Int32))))), .val (.ref b195), .unset] [])) _
      refine XS.iload X197.here hx rfl (hb hby at_54) rfl  ?_
      exact kZ)
    by_cases hc205 : (0 : Int32) < kv
    ·  -- yes
      have fa206 : Old Z n0 T197.heap := ((O1.ext E195).keep K197 (allS (P := fun x => n0 ≤ x) gn_b195 all0))
      obtain ⟨cq207, kq207, q207a, q207b, q207c⟩ := isOf hZ rfl f197_0
      obtain ⟨_, _, ⟨T207, L207, k207, n207⟩, -, X207, ⟨Lc207, hQ207, l207, y207, z207⟩, st207⟩ := X197.virtualBack hx (y := (⟨oE, "take", "()V"⟩ : MethodName)) (z := (⟨oE, "take", "()V"⟩ : MethodName)) hown (mvT hZ (ow hw 40 rfl)) (mvT hZ (ow hw 41 rfl)) (notFace_of_selects (args := #[]) (mvT hZ (ow hw 43 rfl))) (mvT hZ (ow hw 43 rfl)) (mvT hZ (ow hw 42 rfl)) (by decide) (backOf (W := 0) (rm7 l Z a0 hw [] b195 b_198 sz (0 : Int64) (0 : Int32) wa_199 kl_200 (0 : Int32) (0 : Int64) T197.heap n0 Z201 f197_0 f197_1 f197_2 f197_3 f197_4 f197_5 f197_6 f197_7 f197_8 hsz (by decide) (by decide) (by first | assumption | decide) S1 fa206 gn_b195 ne202 ne203 u197_0 u197_2 u197_4) hZ (ow hw 44 rfl) (ow hw 7 rfl) (by decide) (by decide)) q207a q207c (g := (mkF m 61 #[.val (.int p0), .val (.int p1), .val (.int p2), .val (.int sz), .val (.int kv), .val (.int (own_b (¬ ((p2 &&& (2 : Int32)) = (0 : Int32))))), .val (.ref b195), .unset] [(.ref b195)])) rfl (by rw [hml]; rfl) (Steps.refl _) (argsL := []) (rest := []) (lenOf pd4 rfl) rfl (by show 2 * 0 + _ ≤ _; exact Nat.le_of_eq rfl) (hb hby at_61) (fun _ _ => ⟨rfl, rfl, (by decide : 3 + 0 ≤ _), (by decide : 8 + 0 ≤ _)⟩)
      dsimp only [Pt.U, Pt.locs, Pt.cells, Pt.slots] at X207 l207 y207 z207 st207 hQ207
      subst l207 y207 z207
      obtain ⟨mn_208, wn_209, vn_210, rfl, N207q, K207, u207_0, f207_0, f207_1, f207_2, f207_3, f207_4, f207_5, f207_6, f207_7, f207_8⟩ := hQ207
      have N207 := Fr.app N197 N207q
      have Z211 : n0 ≤ T207.heap.size := Nat.le_trans Z201 K207.1
      have pre212 : ∀ tZ, Steps p.tables e below (T207.setTop (mkF m 66 #[.val (.int p0), .val (.int p1), .val (.int p2), .val (.int sz), .val (.int kv), .val (.int (own_b (¬ ((p2 &&& (2 : Int32)) = (0 : Int32))))), .val (.ref b195), .unset] [(.int (own_b (¬ ((p2 &&& (2 : Int32)) = (0 : Int32)))))])) tZ → Steps p.tables e below (s₁.setTop (entryFrame m #[(.int p0), (.int p1), (.int p2)] maxLocals)) tZ := fun tZ kZ => pre204 tZ (by
        show Steps p.tables e below (T197.setTop (mkF m 56 #[.val (.int p0), .val (.int p1), .val (.int p2), .val (.int sz), .val (.int kv), .val (.int (own_b (¬ ((p2 &&& (2 : Int32)) = (0 : Int32))))), .val (.ref b195), .unset] [(.int kv)])) _
        refine XS.ifNo X197.here hx rfl (hb hby at_56) rfl ((if0 _ _).trans (tlt hc205).2.2.2) ?_
        show Steps p.tables e below (T197.setTop (mkF m 59 #[.val (.int p0), .val (.int p1), .val (.int p2), .val (.int sz), .val (.int kv), .val (.int (own_b (¬ ((p2 &&& (2 : Int32)) = (0 : Int32))))), .val (.ref b195), .unset] [])) _
        refine XS.aload X197.here hx rfl (hb hby at_59) rfl rfl ?_
        show Steps p.tables e below (T197.setTop (mkF m 61 #[.val (.int p0), .val (.int p1), .val (.int p2), .val (.int sz), .val (.int kv), .val (.int (own_b (¬ ((p2 &&& (2 : Int32)) = (0 : Int32))))), .val (.ref b195), .unset] [(.ref b195)])) _
        refine st207.trans ?_
        show Steps p.tables e below (T207.setTop (mkF m 64 #[.val (.int p0), .val (.int p1), .val (.int p2), .val (.int sz), .val (.int kv), .val (.int (own_b (¬ ((p2 &&& (2 : Int32)) = (0 : Int32))))), .val (.ref b195), .unset] [])) _
        refine XS.iload X207.here hx rfl (hb hby at_64) rfl  ?_
        exact kZ)
      by_cases hc213 : (¬ ((p2 &&& (2 : Int32)) = (0 : Int32)))
      ·  -- yes
        have fa214 : Old Z n0 T207.heap := (fa206.keep K207 (allS (P := fun x => n0 ≤ x) gn_b195 (allS (P := fun x => n0 ≤ x) u197_0 (allS (P := fun x => n0 ≤ x) u197_2 all0))))
        obtain ⟨cq215, kq215, q215a, q215b, q215c⟩ := isOf hZ rfl f207_0
        obtain ⟨_, _, ⟨T215, L215, k215, n215⟩, -, X215, ⟨Lc215, hQ215, l215, y215, z215⟩, st215⟩ := X207.virtualBack hx (y := (⟨oE, "markLast", "()V"⟩ : MethodName)) (z := (⟨oE, "markLast", "()V"⟩ : MethodName)) hown (mvT hZ (ow hw 58 rfl)) (mvT hZ (ow hw 59 rfl)) (notFace_of_selects (args := #[]) (mvT hZ (ow hw 61 rfl))) (mvT hZ (ow hw 61 rfl)) (mvT hZ (ow hw 60 rfl)) (by decide) (backOf (W := 0) (rm10 l Z a0 hw [] b195 b_198 sz ((0 : Int64) + (1 : Int64)) mn_208 wa_199 kl_200 wn_209 vn_210 T207.heap n0 Z211 f207_0 f207_1 f207_2 f207_3 f207_4 f207_5 f207_6 f207_7 f207_8 hsz (by decide) (by decide) (by first | assumption | decide) S1 fa214 gn_b195 ne202 ne203 u197_0 u197_2 u197_4) hZ (ow hw 62 rfl) (ow hw 7 rfl) (by decide) (by decide)) q215a q215c (g := (mkF m 71 #[.val (.int p0), .val (.int p1), .val (.int p2), .val (.int sz), .val (.int kv), .val (.int (own_b (¬ ((p2 &&& (2 : Int32)) = (0 : Int32))))), .val (.ref b195), .unset] [(.ref b195)])) rfl (by rw [hml]; rfl) (Steps.refl _) (argsL := []) (rest := []) (lenOf pd4 rfl) rfl (by show 2 * 0 + _ ≤ _; exact Nat.le_of_eq rfl) (hb hby at_71) (fun _ _ => ⟨rfl, rfl, (by decide : 3 + 0 ≤ _), (by decide : 8 + 0 ≤ _)⟩)
        dsimp only [Pt.U, Pt.locs, Pt.cells, Pt.slots] at X215 l215 y215 z215 st215 hQ215
        subst l215 y215 z215
        obtain ⟨mn_216, wn_217, vn_218, rfl, N215q, K215, u215_0, f215_0, f215_1, f215_2, f215_3, f215_4, f215_5, f215_6, f215_7, f215_8⟩ := hQ215
        have N215 := Fr.app N207 N215q
        have Z219 : n0 ≤ T215.heap.size := Nat.le_trans Z211 K215.1
        have pre220 : ∀ tZ, Steps p.tables e below (T215.setTop (mkF m 77 #[.val (.int p0), .val (.int p1), .val (.int p2), .val (.int sz), .val (.int kv), .val (.int (own_b (¬ ((p2 &&& (2 : Int32)) = (0 : Int32))))), .val (.ref b195), .unset] [(.int (1 : Int32)), (.int kv)])) tZ → Steps p.tables e below (s₁.setTop (entryFrame m #[(.int p0), (.int p1), (.int p2)] maxLocals)) tZ := fun tZ kZ => pre212 tZ (by
          show Steps p.tables e below (T207.setTop (mkF m 66 #[.val (.int p0), .val (.int p1), .val (.int p2), .val (.int sz), .val (.int kv), .val (.int (own_b (¬ ((p2 &&& (2 : Int32)) = (0 : Int32))))), .val (.ref b195), .unset] [(.int (own_b (¬ ((p2 &&& (2 : Int32)) = (0 : Int32)))))])) _
          refine XS.ifNo X207.here hx rfl (hb hby at_66) rfl ((if0 _ _).trans (feq (own_b_nz hc213)).1) ?_
          show Steps p.tables e below (T207.setTop (mkF m 69 #[.val (.int p0), .val (.int p1), .val (.int p2), .val (.int sz), .val (.int kv), .val (.int (own_b (¬ ((p2 &&& (2 : Int32)) = (0 : Int32))))), .val (.ref b195), .unset] [])) _
          refine XS.aload X207.here hx rfl (hb hby at_69) rfl rfl ?_
          show Steps p.tables e below (T207.setTop (mkF m 71 #[.val (.int p0), .val (.int p1), .val (.int p2), .val (.int sz), .val (.int kv), .val (.int (own_b (¬ ((p2 &&& (2 : Int32)) = (0 : Int32))))), .val (.ref b195), .unset] [(.ref b195)])) _
          refine st215.trans ?_
          show Steps p.tables e below (T215.setTop (mkF m 74 #[.val (.int p0), .val (.int p1), .val (.int p2), .val (.int sz), .val (.int kv), .val (.int (own_b (¬ ((p2 &&& (2 : Int32)) = (0 : Int32))))), .val (.ref b195), .unset] [])) _
          refine XS.iload X215.here hx rfl (hb hby at_74) rfl  ?_
          show Steps p.tables e below (T215.setTop (mkF m 76 #[.val (.int p0), .val (.int p1), .val (.int p2), .val (.int sz), .val (.int kv), .val (.int (own_b (¬ ((p2 &&& (2 : Int32)) = (0 : Int32))))), .val (.ref b195), .unset] [(.int kv)])) _
          refine XS.iconst X215.here hx rfl (hb hby at_76) ?_
          exact kZ)
        by_cases hc221 : (1 : Int32) < kv
        ·  -- yes
          have fa222 : Old Z n0 T215.heap := (fa214.keep K215 (allS (P := fun x => n0 ≤ x) gn_b195 (allS (P := fun x => n0 ≤ x) u197_0 (allS (P := fun x => n0 ≤ x) u197_2 all0))))
          obtain ⟨cq223, kq223, q223a, q223b, q223c⟩ := isOf hZ rfl f215_0
          obtain ⟨_, _, ⟨T223, L223, k223, n223⟩, -, X223, ⟨Lc223, hQ223, l223, y223, z223⟩, st223⟩ := X215.virtualBack hx (y := (⟨oE, "take", "()V"⟩ : MethodName)) (z := (⟨oE, "take", "()V"⟩ : MethodName)) hown (mvT hZ (ow hw 40 rfl)) (mvT hZ (ow hw 41 rfl)) (notFace_of_selects (args := #[]) (mvT hZ (ow hw 43 rfl))) (mvT hZ (ow hw 43 rfl)) (mvT hZ (ow hw 42 rfl)) (by decide) (backOf (W := 0) (rm7 l Z a0 hw [] b195 b_198 sz ((0 : Int64) + (1 : Int64)) mn_216 wa_199 kl_200 wn_217 vn_218 T215.heap n0 Z219 f215_0 f215_1 f215_2 f215_3 f215_4 f215_5 f215_6 f215_7 f215_8 hsz (by decide) (by decide) (by first | assumption | decide) S1 fa222 gn_b195 ne202 ne203 u197_0 u197_2 u197_4) hZ (ow hw 44 rfl) (ow hw 7 rfl) (by decide) (by decide)) q223a q223c (g := (mkF m 82 #[.val (.int p0), .val (.int p1), .val (.int p2), .val (.int sz), .val (.int kv), .val (.int (own_b (¬ ((p2 &&& (2 : Int32)) = (0 : Int32))))), .val (.ref b195), .unset] [(.ref b195)])) rfl (by rw [hml]; rfl) (Steps.refl _) (argsL := []) (rest := []) (lenOf pd4 rfl) rfl (by show 2 * 0 + _ ≤ _; exact Nat.le_of_eq rfl) (hb hby at_82) (fun _ _ => ⟨rfl, rfl, (by decide : 3 + 0 ≤ _), (by decide : 8 + 0 ≤ _)⟩)
          dsimp only [Pt.U, Pt.locs, Pt.cells, Pt.slots] at X223 l223 y223 z223 st223 hQ223
          subst l223 y223 z223
          obtain ⟨mn_224, wn_225, vn_226, rfl, N223q, K223, u223_0, f223_0, f223_1, f223_2, f223_3, f223_4, f223_5, f223_6, f223_7, f223_8⟩ := hQ223
          have N223 := Fr.app N215 N223q
          have Z227 : n0 ≤ T223.heap.size := Nat.le_trans Z219 K223.1
          have pre228 : ∀ tZ, Steps p.tables e below (T223.setTop (mkF m 88 #[.val (.int p0), .val (.int p1), .val (.int p2), .val (.int sz), .val (.int kv), .val (.int (own_b (¬ ((p2 &&& (2 : Int32)) = (0 : Int32))))), .val (.ref b195), .unset] [(.int (2 : Int32)), (.int kv)])) tZ → Steps p.tables e below (s₁.setTop (entryFrame m #[(.int p0), (.int p1), (.int p2)] maxLocals)) tZ := fun tZ kZ => pre220 tZ (by
            show Steps p.tables e below (T215.setTop (mkF m 77 #[.val (.int p0), .val (.int p1), .val (.int p2), .val (.int sz), .val (.int kv), .val (.int (own_b (¬ ((p2 &&& (2 : Int32)) = (0 : Int32))))), .val (.ref b195), .unset] [(.int (1 : Int32)), (.int kv)])) _
            refine XS.icmpNo X215.here hx rfl (hb hby at_77) rfl (tlt hc221).2.2.2 ?_
            show Steps p.tables e below (T215.setTop (mkF m 80 #[.val (.int p0), .val (.int p1), .val (.int p2), .val (.int sz), .val (.int kv), .val (.int (own_b (¬ ((p2 &&& (2 : Int32)) = (0 : Int32))))), .val (.ref b195), .unset] [])) _
            refine XS.aload X215.here hx rfl (hb hby at_80) rfl rfl ?_
            show Steps p.tables e below (T215.setTop (mkF m 82 #[.val (.int p0), .val (.int p1), .val (.int p2), .val (.int sz), .val (.int kv), .val (.int (own_b (¬ ((p2 &&& (2 : Int32)) = (0 : Int32))))), .val (.ref b195), .unset] [(.ref b195)])) _
            refine st223.trans ?_
            show Steps p.tables e below (T223.setTop (mkF m 85 #[.val (.int p0), .val (.int p1), .val (.int p2), .val (.int sz), .val (.int kv), .val (.int (own_b (¬ ((p2 &&& (2 : Int32)) = (0 : Int32))))), .val (.ref b195), .unset] [])) _
            refine XS.iload X223.here hx rfl (hb hby at_85) rfl  ?_
            show Steps p.tables e below (T223.setTop (mkF m 87 #[.val (.int p0), .val (.int p1), .val (.int p2), .val (.int sz), .val (.int kv), .val (.int (own_b (¬ ((p2 &&& (2 : Int32)) = (0 : Int32))))), .val (.ref b195), .unset] [(.int kv)])) _
            refine XS.iconst X223.here hx rfl (hb hby at_87) ?_
            exact kZ)
          by_cases hc229 : (2 : Int32) < kv
          ·  -- yes
            have fa230 : Old Z n0 T223.heap := (fa222.keep K223 (allS (P := fun x => n0 ≤ x) gn_b195 (allS (P := fun x => n0 ≤ x) u197_0 (allS (P := fun x => n0 ≤ x) u197_2 all0))))
            obtain ⟨cq231, kq231, q231a, q231b, q231c⟩ := isOf hZ rfl f223_0
            obtain ⟨_, _, ⟨T231, L231, k231, n231⟩, -, X231, ⟨Lc231, hQ231, l231, y231, z231⟩, st231⟩ := X223.virtualBack hx (y := (⟨oE, "take", "()V"⟩ : MethodName)) (z := (⟨oE, "take", "()V"⟩ : MethodName)) hown (mvT hZ (ow hw 40 rfl)) (mvT hZ (ow hw 41 rfl)) (notFace_of_selects (args := #[]) (mvT hZ (ow hw 43 rfl))) (mvT hZ (ow hw 43 rfl)) (mvT hZ (ow hw 42 rfl)) (by decide) (backOf (W := 0) (rm7 l Z a0 hw [] b195 b_198 sz (((0 : Int64) + (1 : Int64)) + (1 : Int64)) mn_224 wa_199 kl_200 wn_225 vn_226 T223.heap n0 Z227 f223_0 f223_1 f223_2 f223_3 f223_4 f223_5 f223_6 f223_7 f223_8 hsz (by decide) (by decide) (by first | assumption | decide) S1 fa230 gn_b195 ne202 ne203 u197_0 u197_2 u197_4) hZ (ow hw 44 rfl) (ow hw 7 rfl) (by decide) (by decide)) q231a q231c (g := (mkF m 93 #[.val (.int p0), .val (.int p1), .val (.int p2), .val (.int sz), .val (.int kv), .val (.int (own_b (¬ ((p2 &&& (2 : Int32)) = (0 : Int32))))), .val (.ref b195), .unset] [(.ref b195)])) rfl (by rw [hml]; rfl) (Steps.refl _) (argsL := []) (rest := []) (lenOf pd4 rfl) rfl (by show 2 * 0 + _ ≤ _; exact Nat.le_of_eq rfl) (hb hby at_93) (fun _ _ => ⟨rfl, rfl, (by decide : 3 + 0 ≤ _), (by decide : 8 + 0 ≤ _)⟩)
            dsimp only [Pt.U, Pt.locs, Pt.cells, Pt.slots] at X231 l231 y231 z231 st231 hQ231
            subst l231 y231 z231
            obtain ⟨mn_232, wn_233, vn_234, rfl, N231q, K231, u231_0, f231_0, f231_1, f231_2, f231_3, f231_4, f231_5, f231_6, f231_7, f231_8⟩ := hQ231
            have N231 := Fr.app N223 N231q
            have Z235 : n0 ≤ T231.heap.size := Nat.le_trans Z227 K231.1
            have pre236 : ∀ tZ, Steps p.tables e below (T231.setTop (mkF m 99 #[.val (.int p0), .val (.int p1), .val (.int p2), .val (.int sz), .val (.int kv), .val (.int (own_b (¬ ((p2 &&& (2 : Int32)) = (0 : Int32))))), .val (.ref b195), .unset] [(.int (3 : Int32)), (.int kv)])) tZ → Steps p.tables e below (s₁.setTop (entryFrame m #[(.int p0), (.int p1), (.int p2)] maxLocals)) tZ := fun tZ kZ => pre228 tZ (by
              show Steps p.tables e below (T223.setTop (mkF m 88 #[.val (.int p0), .val (.int p1), .val (.int p2), .val (.int sz), .val (.int kv), .val (.int (own_b (¬ ((p2 &&& (2 : Int32)) = (0 : Int32))))), .val (.ref b195), .unset] [(.int (2 : Int32)), (.int kv)])) _
              refine XS.icmpNo X223.here hx rfl (hb hby at_88) rfl (tlt hc229).2.2.2 ?_
              show Steps p.tables e below (T223.setTop (mkF m 91 #[.val (.int p0), .val (.int p1), .val (.int p2), .val (.int sz), .val (.int kv), .val (.int (own_b (¬ ((p2 &&& (2 : Int32)) = (0 : Int32))))), .val (.ref b195), .unset] [])) _
              refine XS.aload X223.here hx rfl (hb hby at_91) rfl rfl ?_
              show Steps p.tables e below (T223.setTop (mkF m 93 #[.val (.int p0), .val (.int p1), .val (.int p2), .val (.int sz), .val (.int kv), .val (.int (own_b (¬ ((p2 &&& (2 : Int32)) = (0 : Int32))))), .val (.ref b195), .unset] [(.ref b195)])) _
              refine st231.trans ?_
              show Steps p.tables e below (T231.setTop (mkF m 96 #[.val (.int p0), .val (.int p1), .val (.int p2), .val (.int sz), .val (.int kv), .val (.int (own_b (¬ ((p2 &&& (2 : Int32)) = (0 : Int32))))), .val (.ref b195), .unset] [])) _
              refine XS.iload X231.here hx rfl (hb hby at_96) rfl  ?_
              show Steps p.tables e below (T231.setTop (mkF m 98 #[.val (.int p0), .val (.int p1), .val (.int p2), .val (.int sz), .val (.int kv), .val (.int (own_b (¬ ((p2 &&& (2 : Int32)) = (0 : Int32))))), .val (.ref b195), .unset] [(.int kv)])) _
              refine XS.iconst X231.here hx rfl (hb hby at_98) ?_
              exact kZ)
            by_cases hc237 : (3 : Int32) < kv
            ·  -- yes
              have fa238 : Old Z n0 T231.heap := (fa230.keep K231 (allS (P := fun x => n0 ≤ x) gn_b195 (allS (P := fun x => n0 ≤ x) u197_0 (allS (P := fun x => n0 ≤ x) u197_2 all0))))
              obtain ⟨cq239, kq239, q239a, q239b, q239c⟩ := isOf hZ rfl f231_0
              obtain ⟨_, _, ⟨T239, L239, k239, n239⟩, -, X239, ⟨Lc239, hQ239, l239, y239, z239⟩, st239⟩ := X231.virtualBack hx (y := (⟨oE, "take", "()V"⟩ : MethodName)) (z := (⟨oE, "take", "()V"⟩ : MethodName)) hown (mvT hZ (ow hw 40 rfl)) (mvT hZ (ow hw 41 rfl)) (notFace_of_selects (args := #[]) (mvT hZ (ow hw 43 rfl))) (mvT hZ (ow hw 43 rfl)) (mvT hZ (ow hw 42 rfl)) (by decide) (backOf (W := 0) (rm7 l Z a0 hw [] b195 b_198 sz ((((0 : Int64) + (1 : Int64)) + (1 : Int64)) + (1 : Int64)) mn_232 wa_199 kl_200 wn_233 vn_234 T231.heap n0 Z235 f231_0 f231_1 f231_2 f231_3 f231_4 f231_5 f231_6 f231_7 f231_8 hsz (by decide) (by decide) (by first | assumption | decide) S1 fa238 gn_b195 ne202 ne203 u197_0 u197_2 u197_4) hZ (ow hw 44 rfl) (ow hw 7 rfl) (by decide) (by decide)) q239a q239c (g := (mkF m 104 #[.val (.int p0), .val (.int p1), .val (.int p2), .val (.int sz), .val (.int kv), .val (.int (own_b (¬ ((p2 &&& (2 : Int32)) = (0 : Int32))))), .val (.ref b195), .unset] [(.ref b195)])) rfl (by rw [hml]; rfl) (Steps.refl _) (argsL := []) (rest := []) (lenOf pd4 rfl) rfl (by show 2 * 0 + _ ≤ _; exact Nat.le_of_eq rfl) (hb hby at_104) (fun _ _ => ⟨rfl, rfl, (by decide : 3 + 0 ≤ _), (by decide : 8 + 0 ≤ _)⟩)
              dsimp only [Pt.U, Pt.locs, Pt.cells, Pt.slots] at X239 l239 y239 z239 st239 hQ239
              subst l239 y239 z239
              obtain ⟨mn_240, wn_241, vn_242, rfl, N239q, K239, u239_0, f239_0, f239_1, f239_2, f239_3, f239_4, f239_5, f239_6, f239_7, f239_8⟩ := hQ239
              have N239 := Fr.app N231 N239q
              have Z243 : n0 ≤ T239.heap.size := Nat.le_trans Z235 K239.1
              have pre244 : ∀ tZ, Steps p.tables e below (T239.setTop (mkF m 110 #[.val (.int p0), .val (.int p1), .val (.int p2), .val (.int sz), .val (.int kv), .val (.int (own_b (¬ ((p2 &&& (2 : Int32)) = (0 : Int32))))), .val (.ref b195), .unset] [(.int (4 : Int32)), (.int kv)])) tZ → Steps p.tables e below (s₁.setTop (entryFrame m #[(.int p0), (.int p1), (.int p2)] maxLocals)) tZ := fun tZ kZ => pre236 tZ (by
                show Steps p.tables e below (T231.setTop (mkF m 99 #[.val (.int p0), .val (.int p1), .val (.int p2), .val (.int sz), .val (.int kv), .val (.int (own_b (¬ ((p2 &&& (2 : Int32)) = (0 : Int32))))), .val (.ref b195), .unset] [(.int (3 : Int32)), (.int kv)])) _
                refine XS.icmpNo X231.here hx rfl (hb hby at_99) rfl (tlt hc237).2.2.2 ?_
                show Steps p.tables e below (T231.setTop (mkF m 102 #[.val (.int p0), .val (.int p1), .val (.int p2), .val (.int sz), .val (.int kv), .val (.int (own_b (¬ ((p2 &&& (2 : Int32)) = (0 : Int32))))), .val (.ref b195), .unset] [])) _
                refine XS.aload X231.here hx rfl (hb hby at_102) rfl rfl ?_
                show Steps p.tables e below (T231.setTop (mkF m 104 #[.val (.int p0), .val (.int p1), .val (.int p2), .val (.int sz), .val (.int kv), .val (.int (own_b (¬ ((p2 &&& (2 : Int32)) = (0 : Int32))))), .val (.ref b195), .unset] [(.ref b195)])) _
                refine st239.trans ?_
                show Steps p.tables e below (T239.setTop (mkF m 107 #[.val (.int p0), .val (.int p1), .val (.int p2), .val (.int sz), .val (.int kv), .val (.int (own_b (¬ ((p2 &&& (2 : Int32)) = (0 : Int32))))), .val (.ref b195), .unset] [])) _
                refine XS.iload X239.here hx rfl (hb hby at_107) rfl  ?_
                show Steps p.tables e below (T239.setTop (mkF m 109 #[.val (.int p0), .val (.int p1), .val (.int p2), .val (.int sz), .val (.int kv), .val (.int (own_b (¬ ((p2 &&& (2 : Int32)) = (0 : Int32))))), .val (.ref b195), .unset] [(.int kv)])) _
                refine XS.iconst X239.here hx rfl (hb hby at_109) ?_
                exact kZ)
              by_cases hc245 : (4 : Int32) < kv
              ·  -- yes
                have fa246 : Old Z n0 T239.heap := (fa238.keep K239 (allS (P := fun x => n0 ≤ x) gn_b195 (allS (P := fun x => n0 ≤ x) u197_0 (allS (P := fun x => n0 ≤ x) u197_2 all0))))
                obtain ⟨cq247, kq247, q247a, q247b, q247c⟩ := isOf hZ rfl f239_0
                obtain ⟨_, _, ⟨T247, L247, k247, n247⟩, -, X247, ⟨Lc247, hQ247, l247, y247, z247⟩, st247⟩ := X239.virtualBack hx (y := (⟨oE, "take", "()V"⟩ : MethodName)) (z := (⟨oE, "take", "()V"⟩ : MethodName)) hown (mvT hZ (ow hw 40 rfl)) (mvT hZ (ow hw 41 rfl)) (notFace_of_selects (args := #[]) (mvT hZ (ow hw 43 rfl))) (mvT hZ (ow hw 43 rfl)) (mvT hZ (ow hw 42 rfl)) (by decide) (backOf (W := 0) (rm7 l Z a0 hw [] b195 b_198 sz (((((0 : Int64) + (1 : Int64)) + (1 : Int64)) + (1 : Int64)) + (1 : Int64)) mn_240 wa_199 kl_200 wn_241 vn_242 T239.heap n0 Z243 f239_0 f239_1 f239_2 f239_3 f239_4 f239_5 f239_6 f239_7 f239_8 hsz (by decide) (by decide) (by first | assumption | decide) S1 fa246 gn_b195 ne202 ne203 u197_0 u197_2 u197_4) hZ (ow hw 44 rfl) (ow hw 7 rfl) (by decide) (by decide)) q247a q247c (g := (mkF m 115 #[.val (.int p0), .val (.int p1), .val (.int p2), .val (.int sz), .val (.int kv), .val (.int (own_b (¬ ((p2 &&& (2 : Int32)) = (0 : Int32))))), .val (.ref b195), .unset] [(.ref b195)])) rfl (by rw [hml]; rfl) (Steps.refl _) (argsL := []) (rest := []) (lenOf pd4 rfl) rfl (by show 2 * 0 + _ ≤ _; exact Nat.le_of_eq rfl) (hb hby at_115) (fun _ _ => ⟨rfl, rfl, (by decide : 3 + 0 ≤ _), (by decide : 8 + 0 ≤ _)⟩)
                dsimp only [Pt.U, Pt.locs, Pt.cells, Pt.slots] at X247 l247 y247 z247 st247 hQ247
                subst l247 y247 z247
                obtain ⟨mn_248, wn_249, vn_250, rfl, N247q, K247, u247_0, f247_0, f247_1, f247_2, f247_3, f247_4, f247_5, f247_6, f247_7, f247_8⟩ := hQ247
                have N247 := Fr.app N239 N247q
                have Z251 : n0 ≤ T247.heap.size := Nat.le_trans Z243 K247.1
                have pre252 : ∀ tZ, Steps p.tables e below (T247.setTop (mkF m 121 #[.val (.int p0), .val (.int p1), .val (.int p2), .val (.int sz), .val (.int kv), .val (.int (own_b (¬ ((p2 &&& (2 : Int32)) = (0 : Int32))))), .val (.ref b195), .unset] [(.int (5 : Int32)), (.int kv)])) tZ → Steps p.tables e below (s₁.setTop (entryFrame m #[(.int p0), (.int p1), (.int p2)] maxLocals)) tZ := fun tZ kZ => pre244 tZ (by
                  show Steps p.tables e below (T239.setTop (mkF m 110 #[.val (.int p0), .val (.int p1), .val (.int p2), .val (.int sz), .val (.int kv), .val (.int (own_b (¬ ((p2 &&& (2 : Int32)) = (0 : Int32))))), .val (.ref b195), .unset] [(.int (4 : Int32)), (.int kv)])) _
                  refine XS.icmpNo X239.here hx rfl (hb hby at_110) rfl (tlt hc245).2.2.2 ?_
                  show Steps p.tables e below (T239.setTop (mkF m 113 #[.val (.int p0), .val (.int p1), .val (.int p2), .val (.int sz), .val (.int kv), .val (.int (own_b (¬ ((p2 &&& (2 : Int32)) = (0 : Int32))))), .val (.ref b195), .unset] [])) _
                  refine XS.aload X239.here hx rfl (hb hby at_113) rfl rfl ?_
                  show Steps p.tables e below (T239.setTop (mkF m 115 #[.val (.int p0), .val (.int p1), .val (.int p2), .val (.int sz), .val (.int kv), .val (.int (own_b (¬ ((p2 &&& (2 : Int32)) = (0 : Int32))))), .val (.ref b195), .unset] [(.ref b195)])) _
                  refine st247.trans ?_
                  show Steps p.tables e below (T247.setTop (mkF m 118 #[.val (.int p0), .val (.int p1), .val (.int p2), .val (.int sz), .val (.int kv), .val (.int (own_b (¬ ((p2 &&& (2 : Int32)) = (0 : Int32))))), .val (.ref b195), .unset] [])) _
                  refine XS.iload X247.here hx rfl (hb hby at_118) rfl  ?_
                  show Steps p.tables e below (T247.setTop (mkF m 120 #[.val (.int p0), .val (.int p1), .val (.int p2), .val (.int sz), .val (.int kv), .val (.int (own_b (¬ ((p2 &&& (2 : Int32)) = (0 : Int32))))), .val (.ref b195), .unset] [(.int kv)])) _
                  refine XS.iconst X247.here hx rfl (hb hby at_120) ?_
                  exact kZ)
                by_cases hc253 : (5 : Int32) < kv
                ·  -- yes
                  have fa254 : Old Z n0 T247.heap := (fa246.keep K247 (allS (P := fun x => n0 ≤ x) gn_b195 (allS (P := fun x => n0 ≤ x) u197_0 (allS (P := fun x => n0 ≤ x) u197_2 all0))))
                  obtain ⟨cq255, kq255, q255a, q255b, q255c⟩ := isOf hZ rfl f247_0
                  obtain ⟨_, _, ⟨T255, L255, k255, n255⟩, -, X255, ⟨Lc255, hQ255, l255, y255, z255⟩, st255⟩ := X247.virtualBack hx (y := (⟨oE, "take", "()V"⟩ : MethodName)) (z := (⟨oE, "take", "()V"⟩ : MethodName)) hown (mvT hZ (ow hw 40 rfl)) (mvT hZ (ow hw 41 rfl)) (notFace_of_selects (args := #[]) (mvT hZ (ow hw 43 rfl))) (mvT hZ (ow hw 43 rfl)) (mvT hZ (ow hw 42 rfl)) (by decide) (backOf (W := 0) (rm7 l Z a0 hw [] b195 b_198 sz ((((((0 : Int64) + (1 : Int64)) + (1 : Int64)) + (1 : Int64)) + (1 : Int64)) + (1 : Int64)) mn_248 wa_199 kl_200 wn_249 vn_250 T247.heap n0 Z251 f247_0 f247_1 f247_2 f247_3 f247_4 f247_5 f247_6 f247_7 f247_8 hsz (by decide) (by decide) (by first | assumption | decide) S1 fa254 gn_b195 ne202 ne203 u197_0 u197_2 u197_4) hZ (ow hw 44 rfl) (ow hw 7 rfl) (by decide) (by decide)) q255a q255c (g := (mkF m 126 #[.val (.int p0), .val (.int p1), .val (.int p2), .val (.int sz), .val (.int kv), .val (.int (own_b (¬ ((p2 &&& (2 : Int32)) = (0 : Int32))))), .val (.ref b195), .unset] [(.ref b195)])) rfl (by rw [hml]; rfl) (Steps.refl _) (argsL := []) (rest := []) (lenOf pd4 rfl) rfl (by show 2 * 0 + _ ≤ _; exact Nat.le_of_eq rfl) (hb hby at_126) (fun _ _ => ⟨rfl, rfl, (by decide : 3 + 0 ≤ _), (by decide : 8 + 0 ≤ _)⟩)
                  dsimp only [Pt.U, Pt.locs, Pt.cells, Pt.slots] at X255 l255 y255 z255 st255 hQ255
                  subst l255 y255 z255
                  obtain ⟨mn_256, wn_257, vn_258, rfl, N255q, K255, u255_0, f255_0, f255_1, f255_2, f255_3, f255_4, f255_5, f255_6, f255_7, f255_8⟩ := hQ255
                  have N255 := Fr.app N247 N255q
                  have Z259 : n0 ≤ T255.heap.size := Nat.le_trans Z251 K255.1
                  have pre260 : ∀ tZ, Steps p.tables e below (T255.setTop (mkF m 133 #[.val (.int p0), .val (.int p1), .val (.int p2), .val (.int sz), .val (.int kv), .val (.int (own_b (¬ ((p2 &&& (2 : Int32)) = (0 : Int32))))), .val (.ref b195), .unset] [(.int (6 : Int32)), (.int kv)])) tZ → Steps p.tables e below (s₁.setTop (entryFrame m #[(.int p0), (.int p1), (.int p2)] maxLocals)) tZ := fun tZ kZ => pre252 tZ (by
                    show Steps p.tables e below (T247.setTop (mkF m 121 #[.val (.int p0), .val (.int p1), .val (.int p2), .val (.int sz), .val (.int kv), .val (.int (own_b (¬ ((p2 &&& (2 : Int32)) = (0 : Int32))))), .val (.ref b195), .unset] [(.int (5 : Int32)), (.int kv)])) _
                    refine XS.icmpNo X247.here hx rfl (hb hby at_121) rfl (tlt hc253).2.2.2 ?_
                    show Steps p.tables e below (T247.setTop (mkF m 124 #[.val (.int p0), .val (.int p1), .val (.int p2), .val (.int sz), .val (.int kv), .val (.int (own_b (¬ ((p2 &&& (2 : Int32)) = (0 : Int32))))), .val (.ref b195), .unset] [])) _
                    refine XS.aload X247.here hx rfl (hb hby at_124) rfl rfl ?_
                    show Steps p.tables e below (T247.setTop (mkF m 126 #[.val (.int p0), .val (.int p1), .val (.int p2), .val (.int sz), .val (.int kv), .val (.int (own_b (¬ ((p2 &&& (2 : Int32)) = (0 : Int32))))), .val (.ref b195), .unset] [(.ref b195)])) _
                    refine st255.trans ?_
                    show Steps p.tables e below (T255.setTop (mkF m 129 #[.val (.int p0), .val (.int p1), .val (.int p2), .val (.int sz), .val (.int kv), .val (.int (own_b (¬ ((p2 &&& (2 : Int32)) = (0 : Int32))))), .val (.ref b195), .unset] [])) _
                    refine XS.iload X255.here hx rfl (hb hby at_129) rfl  ?_
                    show Steps p.tables e below (T255.setTop (mkF m 131 #[.val (.int p0), .val (.int p1), .val (.int p2), .val (.int sz), .val (.int kv), .val (.int (own_b (¬ ((p2 &&& (2 : Int32)) = (0 : Int32))))), .val (.ref b195), .unset] [(.int kv)])) _
                    refine XS.bipush X255.here hx rfl (hb hby at_131) ?_
                    exact kZ)
                  by_cases hc261 : (6 : Int32) < kv
                  ·  -- yes
                    have fa262 : Old Z n0 T255.heap := (fa254.keep K255 (allS (P := fun x => n0 ≤ x) gn_b195 (allS (P := fun x => n0 ≤ x) u197_0 (allS (P := fun x => n0 ≤ x) u197_2 all0))))
                    obtain ⟨cq263, kq263, q263a, q263b, q263c⟩ := isOf hZ rfl f255_0
                    obtain ⟨_, _, ⟨T263, L263, k263, n263⟩, -, X263, ⟨Lc263, hQ263, l263, y263, z263⟩, st263⟩ := X255.virtualBack hx (y := (⟨oE, "take", "()V"⟩ : MethodName)) (z := (⟨oE, "take", "()V"⟩ : MethodName)) hown (mvT hZ (ow hw 40 rfl)) (mvT hZ (ow hw 41 rfl)) (notFace_of_selects (args := #[]) (mvT hZ (ow hw 43 rfl))) (mvT hZ (ow hw 43 rfl)) (mvT hZ (ow hw 42 rfl)) (by decide) (backOf (W := 0) (rm7 l Z a0 hw [] b195 b_198 sz (((((((0 : Int64) + (1 : Int64)) + (1 : Int64)) + (1 : Int64)) + (1 : Int64)) + (1 : Int64)) + (1 : Int64)) mn_256 wa_199 kl_200 wn_257 vn_258 T255.heap n0 Z259 f255_0 f255_1 f255_2 f255_3 f255_4 f255_5 f255_6 f255_7 f255_8 hsz (by decide) (by decide) (by first | assumption | decide) S1 fa262 gn_b195 ne202 ne203 u197_0 u197_2 u197_4) hZ (ow hw 44 rfl) (ow hw 7 rfl) (by decide) (by decide)) q263a q263c (g := (mkF m 138 #[.val (.int p0), .val (.int p1), .val (.int p2), .val (.int sz), .val (.int kv), .val (.int (own_b (¬ ((p2 &&& (2 : Int32)) = (0 : Int32))))), .val (.ref b195), .unset] [(.ref b195)])) rfl (by rw [hml]; rfl) (Steps.refl _) (argsL := []) (rest := []) (lenOf pd4 rfl) rfl (by show 2 * 0 + _ ≤ _; exact Nat.le_of_eq rfl) (hb hby at_138) (fun _ _ => ⟨rfl, rfl, (by decide : 3 + 0 ≤ _), (by decide : 8 + 0 ≤ _)⟩)
                    dsimp only [Pt.U, Pt.locs, Pt.cells, Pt.slots] at X263 l263 y263 z263 st263 hQ263
                    subst l263 y263 z263
                    obtain ⟨mn_264, wn_265, vn_266, rfl, N263q, K263, u263_0, f263_0, f263_1, f263_2, f263_3, f263_4, f263_5, f263_6, f263_7, f263_8⟩ := hQ263
                    have N263 := Fr.app N255 N263q
                    have Z267 : n0 ≤ T263.heap.size := Nat.le_trans Z259 K263.1
                    have pre268 : ∀ tZ, Steps p.tables e below (T263.setTop (mkF m 144 #[.val (.int p0), .val (.int p1), .val (.int p2), .val (.int sz), .val (.int kv), .val (.int (own_b (¬ ((p2 &&& (2 : Int32)) = (0 : Int32))))), .val (.ref b195), .unset] [(.int sz), (.int kv)])) tZ → Steps p.tables e below (s₁.setTop (entryFrame m #[(.int p0), (.int p1), (.int p2)] maxLocals)) tZ := fun tZ kZ => pre260 tZ (by
                      show Steps p.tables e below (T255.setTop (mkF m 133 #[.val (.int p0), .val (.int p1), .val (.int p2), .val (.int sz), .val (.int kv), .val (.int (own_b (¬ ((p2 &&& (2 : Int32)) = (0 : Int32))))), .val (.ref b195), .unset] [(.int (6 : Int32)), (.int kv)])) _
                      refine XS.icmpNo X255.here hx rfl (hb hby at_133) rfl (tlt hc261).2.2.2 ?_
                      show Steps p.tables e below (T255.setTop (mkF m 136 #[.val (.int p0), .val (.int p1), .val (.int p2), .val (.int sz), .val (.int kv), .val (.int (own_b (¬ ((p2 &&& (2 : Int32)) = (0 : Int32))))), .val (.ref b195), .unset] [])) _
                      refine XS.aload X255.here hx rfl (hb hby at_136) rfl rfl ?_
                      show Steps p.tables e below (T255.setTop (mkF m 138 #[.val (.int p0), .val (.int p1), .val (.int p2), .val (.int sz), .val (.int kv), .val (.int (own_b (¬ ((p2 &&& (2 : Int32)) = (0 : Int32))))), .val (.ref b195), .unset] [(.ref b195)])) _
                      refine st263.trans ?_
                      show Steps p.tables e below (T263.setTop (mkF m 141 #[.val (.int p0), .val (.int p1), .val (.int p2), .val (.int sz), .val (.int kv), .val (.int (own_b (¬ ((p2 &&& (2 : Int32)) = (0 : Int32))))), .val (.ref b195), .unset] [])) _
                      refine XS.iload X263.here hx rfl (hb hby at_141) rfl  ?_
                      show Steps p.tables e below (T263.setTop (mkF m 143 #[.val (.int p0), .val (.int p1), .val (.int p2), .val (.int sz), .val (.int kv), .val (.int (own_b (¬ ((p2 &&& (2 : Int32)) = (0 : Int32))))), .val (.ref b195), .unset] [(.int kv)])) _
                      refine XS.iloadN X263.here hx rfl (hb hby at_143) rfl  ?_
                      exact kZ)
                    have pre270 : ∀ tZ, Steps p.tables e below (T263.setTop (mkF m 152 #[.val (.int p0), .val (.int p1), .val (.int p2), .val (.int sz), .val (.int kv), .val (.int (own_b (¬ ((p2 &&& (2 : Int32)) = (0 : Int32))))), .val (.ref b195), .unset] [(.int (own_b (¬ (kv < sz))))])) tZ → Steps p.tables e below (s₁.setTop (entryFrame m #[(.int p0), (.int p1), (.int p2)] maxLocals)) tZ := fun tZ kZ => pre268 tZ (by
                      by_cases hc269 : kv < sz
                      ·  -- yes
                        show Steps p.tables e below (T263.setTop (mkF m 144 #[.val (.int p0), .val (.int p1), .val (.int p2), .val (.int sz), .val (.int kv), .val (.int (own_b (¬ ((p2 &&& (2 : Int32)) = (0 : Int32))))), .val (.ref b195), .unset] [(.int sz), (.int kv)])) _
                        refine XS.icmpYes X263.here hx rfl (pc0 := 144) (pc' := 151) rfl (hb hby at_144) rfl (tlt hc269).1 (by decide) (by decide) ?_
                        show Steps p.tables e below (T263.setTop (mkF m 151 #[.val (.int p0), .val (.int p1), .val (.int p2), .val (.int sz), .val (.int kv), .val (.int (own_b (¬ ((p2 &&& (2 : Int32)) = (0 : Int32))))), .val (.ref b195), .unset] [])) _
                        refine XS.iconst X263.here hx rfl (hb hby at_151) ?_
                        have ekZ : (own_b (¬ (kv < sz))) = (0 : Int32) := by first | (simp only [own_b, eq_true hc269, and_true, true_and, and_false, false_and, or_true, true_or, or_false, false_or, not_true_eq_false, not_false_eq_true, if_true, if_false, reduceIte]; done) | (simp [own_b, hc269]; done)
                        rw [ekZ] at kZ
                        exact kZ
                      ·  -- no
                        show Steps p.tables e below (T263.setTop (mkF m 144 #[.val (.int p0), .val (.int p1), .val (.int p2), .val (.int sz), .val (.int kv), .val (.int (own_b (¬ ((p2 &&& (2 : Int32)) = (0 : Int32))))), .val (.ref b195), .unset] [(.int sz), (.int kv)])) _
                        refine XS.icmpNo X263.here hx rfl (hb hby at_144) rfl (flt hc269).1 ?_
                        show Steps p.tables e below (T263.setTop (mkF m 147 #[.val (.int p0), .val (.int p1), .val (.int p2), .val (.int sz), .val (.int kv), .val (.int (own_b (¬ ((p2 &&& (2 : Int32)) = (0 : Int32))))), .val (.ref b195), .unset] [])) _
                        refine XS.iconst X263.here hx rfl (hb hby at_147) ?_
                        show Steps p.tables e below (T263.setTop (mkF m 148 #[.val (.int p0), .val (.int p1), .val (.int p2), .val (.int sz), .val (.int kv), .val (.int (own_b (¬ ((p2 &&& (2 : Int32)) = (0 : Int32))))), .val (.ref b195), .unset] [(.int (1 : Int32))])) _
                        refine XS.goto X263.here hx rfl (pc0 := 148) (pc' := 152) rfl (hb hby at_148) (by decide) (by decide) ?_
                        have ekZ : (own_b (¬ (kv < sz))) = (1 : Int32) := by first | (simp only [own_b, eq_false hc269, and_true, true_and, and_false, false_and, or_true, true_or, or_false, false_or, not_true_eq_false, not_false_eq_true, if_true, if_false, reduceIte]; done) | (simp [own_b, hc269]; done)
                        rw [ekZ] at kZ
                        exact kZ)
                    obtain ⟨cq271, kq271, q271a, q271b, q271c⟩ := isOf hZ rfl f263_0
                    obtain ⟨_, _, ⟨T271, L271, k271, n271⟩, -, X271, ⟨Lc271, hQ271, l271, y271, z271⟩, st271⟩ := X263.virtualBack hx (y := (⟨oE, "full", "()Z"⟩ : MethodName)) (z := (⟨oE, "full", "()Z"⟩ : MethodName)) hown (mvT hZ (ow hw 91 rfl)) (mvT hZ (ow hw 92 rfl)) (notFace_of_selects (args := #[]) (mvT hZ (ow hw 94 rfl))) (mvT hZ (ow hw 94 rfl)) (mvT hZ (ow hw 93 rfl)) (by decide) (backOf (W := 0) (rm16 l Z a0 hw [] b195 sz ((((((((0 : Int64) + (1 : Int64)) + (1 : Int64)) + (1 : Int64)) + (1 : Int64)) + (1 : Int64)) + (1 : Int64)) + (1 : Int64)) T263.heap n0 Z267 f263_2 f263_3) hZ (ow hw 95 rfl) (ow hw 7 rfl) (by decide) (by decide)) q271a q271c (g := (mkF m 156 #[.val (.int p0), .val (.int p1), .val (.int p2), .val (.int sz), .val (.int kv), .val (.int (own_b (¬ ((p2 &&& (2 : Int32)) = (0 : Int32))))), .val (.ref b195), .val (.int (own_b (¬ (kv < sz))))] [(.ref b195)])) rfl (by rw [hml]; rfl) (Steps.refl _) (argsL := []) (rest := []) (lenOf pd8 rfl) rfl (by show 2 * 0 + _ ≤ _; exact Nat.le_of_eq rfl) (hb hby at_156) (fun _ _ => ⟨rfl, rfl, (by decide : 3 + 0 ≤ _), (by decide : 8 + 0 ≤ _)⟩)
                    dsimp only [Pt.U, Pt.locs, Pt.cells, Pt.slots] at X271 l271 y271 z271 st271 hQ271
                    subst l271 y271 z271
                    obtain ⟨rfl, N271q, e271⟩ := hQ271
                    have N271 := Fr.app N263 N271q
                    obtain ⟨fsZ, hrZ, hrun, hended, hW, hsame⟩ := X271.leave (v := some (.int (1 : Int32))) (fun h => by rw [Bd.returns] at h; cases h)
                    refine ⟨_, _, pre270 _ ?_, hrun, hended, _, _, rfl, ?_, ⟨_, rfl⟩, hW, hsame.mono (by decide) (by decide)⟩
                    · show Steps p.tables e below (T263.setTop (mkF m 152 #[.val (.int p0), .val (.int p1), .val (.int p2), .val (.int sz), .val (.int kv), .val (.int (own_b (¬ ((p2 &&& (2 : Int32)) = (0 : Int32))))), .val (.ref b195), .unset] [(.int (own_b (¬ (kv < sz))))])) _
                      refine XS.istore X263.here hx rfl (hb hby at_152) rfl (l' := #[.val (.int p0), .val (.int p1), .val (.int p2), .val (.int sz), .val (.int kv), .val (.int (own_b (¬ ((p2 &&& (2 : Int32)) = (0 : Int32))))), .val (.ref b195), .val (.int (own_b (¬ (kv < sz))))]) rfl ?_
                      show Steps p.tables e below (T263.setTop (mkF m 154 #[.val (.int p0), .val (.int p1), .val (.int p2), .val (.int sz), .val (.int kv), .val (.int (own_b (¬ ((p2 &&& (2 : Int32)) = (0 : Int32))))), .val (.ref b195), .val (.int (own_b (¬ (kv < sz))))] [])) _
                      refine XS.aload X263.here hx rfl (hb hby at_154) rfl rfl ?_
                      show Steps p.tables e below (T263.setTop (mkF m 156 #[.val (.int p0), .val (.int p1), .val (.int p2), .val (.int sz), .val (.int kv), .val (.int (own_b (¬ ((p2 &&& (2 : Int32)) = (0 : Int32))))), .val (.ref b195), .val (.int (own_b (¬ (kv < sz))))] [(.ref b195)])) _
                      refine st271.trans ?_
                      show Steps p.tables e below (T271.setTop (mkF m 159 #[.val (.int p0), .val (.int p1), .val (.int p2), .val (.int sz), .val (.int kv), .val (.int (own_b (¬ ((p2 &&& (2 : Int32)) = (0 : Int32))))), .val (.ref b195), .val (.int (own_b (¬ (kv < sz))))] [(.int (own_b (¬ (((((((((0 : Int64) + (1 : Int64)) + (1 : Int64)) + (1 : Int64)) + (1 : Int64)) + (1 : Int64)) + (1 : Int64)) + (1 : Int64)) < (sz.toInt64)))))])) _
                      refine XS.iload X271.here hx rfl (hb hby at_159) rfl  ?_
                      show Steps p.tables e below (T271.setTop (mkF m 161 #[.val (.int p0), .val (.int p1), .val (.int p2), .val (.int sz), .val (.int kv), .val (.int (own_b (¬ ((p2 &&& (2 : Int32)) = (0 : Int32))))), .val (.ref b195), .val (.int (own_b (¬ (kv < sz))))] [(.int (own_b (¬ (kv < sz)))), (.int (own_b (¬ (((((((((0 : Int64) + (1 : Int64)) + (1 : Int64)) + (1 : Int64)) + (1 : Int64)) + (1 : Int64)) + (1 : Int64)) + (1 : Int64)) < (sz.toInt64)))))])) _
                      refine XS.icmpNo X271.here hx rfl (hb hby at_161) rfl (teq (own_fin 7 hsz (by decide) (own_eqk 7 (hc261) (own_k7 hkv) (by decide) (by decide)))).2 ?_
                      show Steps p.tables e below (T271.setTop (mkF m 164 #[.val (.int p0), .val (.int p1), .val (.int p2), .val (.int sz), .val (.int kv), .val (.int (own_b (¬ ((p2 &&& (2 : Int32)) = (0 : Int32))))), .val (.ref b195), .val (.int (own_b (¬ (kv < sz))))] [])) _
                      refine XS.iconst X271.here hx rfl (hb hby at_164) ?_
                      show Steps p.tables e below (T271.setTop (mkF m 165 #[.val (.int p0), .val (.int p1), .val (.int p2), .val (.int sz), .val (.int kv), .val (.int (own_b (¬ ((p2 &&& (2 : Int32)) = (0 : Int32))))), .val (.ref b195), .val (.int (own_b (¬ (kv < sz))))] [(.int (1 : Int32))])) _
                      refine XS.goto X271.here hx rfl (pc0 := 165) (pc' := 169) rfl (hb hby at_165) (by decide) (by decide) ?_
                      show Steps p.tables e below (T271.setTop (mkF m 169 #[.val (.int p0), .val (.int p1), .val (.int p2), .val (.int sz), .val (.int kv), .val (.int (own_b (¬ ((p2 &&& (2 : Int32)) = (0 : Int32))))), .val (.ref b195), .val (.int (own_b (¬ (kv < sz))))] [(.int (1 : Int32))])) _
                      exact retN X271 hx (t := .boolean) Bd.returns (by simp) (hb hby at_169) hrZ
                    · show Q0 Z p0 p1 p2 h0 n0 _ T271.heap _
                      rw [e271]
                      exact ⟨rfl, N271⟩
                  ·  -- no
                    have pre272 : ∀ tZ, Steps p.tables e below (T255.setTop (mkF m 144 #[.val (.int p0), .val (.int p1), .val (.int p2), .val (.int sz), .val (.int kv), .val (.int (own_b (¬ ((p2 &&& (2 : Int32)) = (0 : Int32))))), .val (.ref b195), .unset] [(.int sz), (.int kv)])) tZ → Steps p.tables e below (s₁.setTop (entryFrame m #[(.int p0), (.int p1), (.int p2)] maxLocals)) tZ := fun tZ kZ => pre260 tZ (by
                      show Steps p.tables e below (T255.setTop (mkF m 133 #[.val (.int p0), .val (.int p1), .val (.int p2), .val (.int sz), .val (.int kv), .val (.int (own_b (¬ ((p2 &&& (2 : Int32)) = (0 : Int32))))), .val (.ref b195), .unset] [(.int (6 : Int32)), (.int kv)])) _
                      refine XS.icmpYes X255.here hx rfl (pc0 := 133) (pc' := 141) rfl (hb hby at_133) rfl (flt hc261).2.2.2 (by decide) (by decide) ?_
                      show Steps p.tables e below (T255.setTop (mkF m 141 #[.val (.int p0), .val (.int p1), .val (.int p2), .val (.int sz), .val (.int kv), .val (.int (own_b (¬ ((p2 &&& (2 : Int32)) = (0 : Int32))))), .val (.ref b195), .unset] [])) _
                      refine XS.iload X255.here hx rfl (hb hby at_141) rfl  ?_
                      show Steps p.tables e below (T255.setTop (mkF m 143 #[.val (.int p0), .val (.int p1), .val (.int p2), .val (.int sz), .val (.int kv), .val (.int (own_b (¬ ((p2 &&& (2 : Int32)) = (0 : Int32))))), .val (.ref b195), .unset] [(.int kv)])) _
                      refine XS.iloadN X255.here hx rfl (hb hby at_143) rfl  ?_
                      exact kZ)
                    have pre274 : ∀ tZ, Steps p.tables e below (T255.setTop (mkF m 152 #[.val (.int p0), .val (.int p1), .val (.int p2), .val (.int sz), .val (.int kv), .val (.int (own_b (¬ ((p2 &&& (2 : Int32)) = (0 : Int32))))), .val (.ref b195), .unset] [(.int (own_b (¬ (kv < sz))))])) tZ → Steps p.tables e below (s₁.setTop (entryFrame m #[(.int p0), (.int p1), (.int p2)] maxLocals)) tZ := fun tZ kZ => pre272 tZ (by
                      by_cases hc273 : kv < sz
                      ·  -- yes
                        show Steps p.tables e below (T255.setTop (mkF m 144 #[.val (.int p0), .val (.int p1), .val (.int p2), .val (.int sz), .val (.int kv), .val (.int (own_b (¬ ((p2 &&& (2 : Int32)) = (0 : Int32))))), .val (.ref b195), .unset] [(.int sz), (.int kv)])) _
                        refine XS.icmpYes X255.here hx rfl (pc0 := 144) (pc' := 151) rfl (hb hby at_144) rfl (tlt hc273).1 (by decide) (by decide) ?_
                        show Steps p.tables e below (T255.setTop (mkF m 151 #[.val (.int p0), .val (.int p1), .val (.int p2), .val (.int sz), .val (.int kv), .val (.int (own_b (¬ ((p2 &&& (2 : Int32)) = (0 : Int32))))), .val (.ref b195), .unset] [])) _
                        refine XS.iconst X255.here hx rfl (hb hby at_151) ?_
                        have ekZ : (own_b (¬ (kv < sz))) = (0 : Int32) := by first | (simp only [own_b, eq_true hc273, and_true, true_and, and_false, false_and, or_true, true_or, or_false, false_or, not_true_eq_false, not_false_eq_true, if_true, if_false, reduceIte]; done) | (simp [own_b, hc273]; done)
                        rw [ekZ] at kZ
                        exact kZ
                      ·  -- no
                        show Steps p.tables e below (T255.setTop (mkF m 144 #[.val (.int p0), .val (.int p1), .val (.int p2), .val (.int sz), .val (.int kv), .val (.int (own_b (¬ ((p2 &&& (2 : Int32)) = (0 : Int32))))), .val (.ref b195), .unset] [(.int sz), (.int kv)])) _
                        refine XS.icmpNo X255.here hx rfl (hb hby at_144) rfl (flt hc273).1 ?_
                        show Steps p.tables e below (T255.setTop (mkF m 147 #[.val (.int p0), .val (.int p1), .val (.int p2), .val (.int sz), .val (.int kv), .val (.int (own_b (¬ ((p2 &&& (2 : Int32)) = (0 : Int32))))), .val (.ref b195), .unset] [])) _
                        refine XS.iconst X255.here hx rfl (hb hby at_147) ?_
                        show Steps p.tables e below (T255.setTop (mkF m 148 #[.val (.int p0), .val (.int p1), .val (.int p2), .val (.int sz), .val (.int kv), .val (.int (own_b (¬ ((p2 &&& (2 : Int32)) = (0 : Int32))))), .val (.ref b195), .unset] [(.int (1 : Int32))])) _
                        refine XS.goto X255.here hx rfl (pc0 := 148) (pc' := 152) rfl (hb hby at_148) (by decide) (by decide) ?_
                        have ekZ : (own_b (¬ (kv < sz))) = (1 : Int32) := by first | (simp only [own_b, eq_false hc273, and_true, true_and, and_false, false_and, or_true, true_or, or_false, false_or, not_true_eq_false, not_false_eq_true, if_true, if_false, reduceIte]; done) | (simp [own_b, hc273]; done)
                        rw [ekZ] at kZ
                        exact kZ)
                    obtain ⟨cq275, kq275, q275a, q275b, q275c⟩ := isOf hZ rfl f255_0
                    obtain ⟨_, _, ⟨T275, L275, k275, n275⟩, -, X275, ⟨Lc275, hQ275, l275, y275, z275⟩, st275⟩ := X255.virtualBack hx (y := (⟨oE, "full", "()Z"⟩ : MethodName)) (z := (⟨oE, "full", "()Z"⟩ : MethodName)) hown (mvT hZ (ow hw 91 rfl)) (mvT hZ (ow hw 92 rfl)) (notFace_of_selects (args := #[]) (mvT hZ (ow hw 94 rfl))) (mvT hZ (ow hw 94 rfl)) (mvT hZ (ow hw 93 rfl)) (by decide) (backOf (W := 0) (rm16 l Z a0 hw [] b195 sz (((((((0 : Int64) + (1 : Int64)) + (1 : Int64)) + (1 : Int64)) + (1 : Int64)) + (1 : Int64)) + (1 : Int64)) T255.heap n0 Z259 f255_2 f255_3) hZ (ow hw 95 rfl) (ow hw 7 rfl) (by decide) (by decide)) q275a q275c (g := (mkF m 156 #[.val (.int p0), .val (.int p1), .val (.int p2), .val (.int sz), .val (.int kv), .val (.int (own_b (¬ ((p2 &&& (2 : Int32)) = (0 : Int32))))), .val (.ref b195), .val (.int (own_b (¬ (kv < sz))))] [(.ref b195)])) rfl (by rw [hml]; rfl) (Steps.refl _) (argsL := []) (rest := []) (lenOf pd8 rfl) rfl (by show 2 * 0 + _ ≤ _; exact Nat.le_of_eq rfl) (hb hby at_156) (fun _ _ => ⟨rfl, rfl, (by decide : 3 + 0 ≤ _), (by decide : 8 + 0 ≤ _)⟩)
                    dsimp only [Pt.U, Pt.locs, Pt.cells, Pt.slots] at X275 l275 y275 z275 st275 hQ275
                    subst l275 y275 z275
                    obtain ⟨rfl, N275q, e275⟩ := hQ275
                    have N275 := Fr.app N255 N275q
                    obtain ⟨fsZ, hrZ, hrun, hended, hW, hsame⟩ := X275.leave (v := some (.int (1 : Int32))) (fun h => by rw [Bd.returns] at h; cases h)
                    refine ⟨_, _, pre274 _ ?_, hrun, hended, _, _, rfl, ?_, ⟨_, rfl⟩, hW, hsame.mono (by decide) (by decide)⟩
                    · show Steps p.tables e below (T255.setTop (mkF m 152 #[.val (.int p0), .val (.int p1), .val (.int p2), .val (.int sz), .val (.int kv), .val (.int (own_b (¬ ((p2 &&& (2 : Int32)) = (0 : Int32))))), .val (.ref b195), .unset] [(.int (own_b (¬ (kv < sz))))])) _
                      refine XS.istore X255.here hx rfl (hb hby at_152) rfl (l' := #[.val (.int p0), .val (.int p1), .val (.int p2), .val (.int sz), .val (.int kv), .val (.int (own_b (¬ ((p2 &&& (2 : Int32)) = (0 : Int32))))), .val (.ref b195), .val (.int (own_b (¬ (kv < sz))))]) rfl ?_
                      show Steps p.tables e below (T255.setTop (mkF m 154 #[.val (.int p0), .val (.int p1), .val (.int p2), .val (.int sz), .val (.int kv), .val (.int (own_b (¬ ((p2 &&& (2 : Int32)) = (0 : Int32))))), .val (.ref b195), .val (.int (own_b (¬ (kv < sz))))] [])) _
                      refine XS.aload X255.here hx rfl (hb hby at_154) rfl rfl ?_
                      show Steps p.tables e below (T255.setTop (mkF m 156 #[.val (.int p0), .val (.int p1), .val (.int p2), .val (.int sz), .val (.int kv), .val (.int (own_b (¬ ((p2 &&& (2 : Int32)) = (0 : Int32))))), .val (.ref b195), .val (.int (own_b (¬ (kv < sz))))] [(.ref b195)])) _
                      refine st275.trans ?_
                      show Steps p.tables e below (T275.setTop (mkF m 159 #[.val (.int p0), .val (.int p1), .val (.int p2), .val (.int sz), .val (.int kv), .val (.int (own_b (¬ ((p2 &&& (2 : Int32)) = (0 : Int32))))), .val (.ref b195), .val (.int (own_b (¬ (kv < sz))))] [(.int (own_b (¬ ((((((((0 : Int64) + (1 : Int64)) + (1 : Int64)) + (1 : Int64)) + (1 : Int64)) + (1 : Int64)) + (1 : Int64)) < (sz.toInt64)))))])) _
                      refine XS.iload X275.here hx rfl (hb hby at_159) rfl  ?_
                      show Steps p.tables e below (T275.setTop (mkF m 161 #[.val (.int p0), .val (.int p1), .val (.int p2), .val (.int sz), .val (.int kv), .val (.int (own_b (¬ ((p2 &&& (2 : Int32)) = (0 : Int32))))), .val (.ref b195), .val (.int (own_b (¬ (kv < sz))))] [(.int (own_b (¬ (kv < sz)))), (.int (own_b (¬ ((((((((0 : Int64) + (1 : Int64)) + (1 : Int64)) + (1 : Int64)) + (1 : Int64)) + (1 : Int64)) + (1 : Int64)) < (sz.toInt64)))))])) _
                      refine XS.icmpNo X275.here hx rfl (hb hby at_161) rfl (teq (own_fin 6 hsz (by decide) (own_eqk 6 (hc253) hc261 (by decide) (by decide)))).2 ?_
                      show Steps p.tables e below (T275.setTop (mkF m 164 #[.val (.int p0), .val (.int p1), .val (.int p2), .val (.int sz), .val (.int kv), .val (.int (own_b (¬ ((p2 &&& (2 : Int32)) = (0 : Int32))))), .val (.ref b195), .val (.int (own_b (¬ (kv < sz))))] [])) _
                      refine XS.iconst X275.here hx rfl (hb hby at_164) ?_
                      show Steps p.tables e below (T275.setTop (mkF m 165 #[.val (.int p0), .val (.int p1), .val (.int p2), .val (.int sz), .val (.int kv), .val (.int (own_b (¬ ((p2 &&& (2 : Int32)) = (0 : Int32))))), .val (.ref b195), .val (.int (own_b (¬ (kv < sz))))] [(.int (1 : Int32))])) _
                      refine XS.goto X275.here hx rfl (pc0 := 165) (pc' := 169) rfl (hb hby at_165) (by decide) (by decide) ?_
                      show Steps p.tables e below (T275.setTop (mkF m 169 #[.val (.int p0), .val (.int p1), .val (.int p2), .val (.int sz), .val (.int kv), .val (.int (own_b (¬ ((p2 &&& (2 : Int32)) = (0 : Int32))))), .val (.ref b195), .val (.int (own_b (¬ (kv < sz))))] [(.int (1 : Int32))])) _
                      exact retN X275 hx (t := .boolean) Bd.returns (by simp) (hb hby at_169) hrZ
                    · show Q0 Z p0 p1 p2 h0 n0 _ T275.heap _
                      rw [e275]
                      exact ⟨rfl, N275⟩
                ·  -- no
                  have pre276 : ∀ tZ, Steps p.tables e below (T247.setTop (mkF m 144 #[.val (.int p0), .val (.int p1), .val (.int p2), .val (.int sz), .val (.int kv), .val (.int (own_b (¬ ((p2 &&& (2 : Int32)) = (0 : Int32))))), .val (.ref b195), .unset] [(.int sz), (.int kv)])) tZ → Steps p.tables e below (s₁.setTop (entryFrame m #[(.int p0), (.int p1), (.int p2)] maxLocals)) tZ := fun tZ kZ => pre252 tZ (by
                    show Steps p.tables e below (T247.setTop (mkF m 121 #[.val (.int p0), .val (.int p1), .val (.int p2), .val (.int sz), .val (.int kv), .val (.int (own_b (¬ ((p2 &&& (2 : Int32)) = (0 : Int32))))), .val (.ref b195), .unset] [(.int (5 : Int32)), (.int kv)])) _
                    refine XS.icmpYes X247.here hx rfl (pc0 := 121) (pc' := 129) rfl (hb hby at_121) rfl (flt hc253).2.2.2 (by decide) (by decide) ?_
                    show Steps p.tables e below (T247.setTop (mkF m 129 #[.val (.int p0), .val (.int p1), .val (.int p2), .val (.int sz), .val (.int kv), .val (.int (own_b (¬ ((p2 &&& (2 : Int32)) = (0 : Int32))))), .val (.ref b195), .unset] [])) _
                    refine XS.iload X247.here hx rfl (hb hby at_129) rfl  ?_
                    show Steps p.tables e below (T247.setTop (mkF m 131 #[.val (.int p0), .val (.int p1), .val (.int p2), .val (.int sz), .val (.int kv), .val (.int (own_b (¬ ((p2 &&& (2 : Int32)) = (0 : Int32))))), .val (.ref b195), .unset] [(.int kv)])) _
                    refine XS.bipush X247.here hx rfl (hb hby at_131) ?_
                    show Steps p.tables e below (T247.setTop (mkF m 133 #[.val (.int p0), .val (.int p1), .val (.int p2), .val (.int sz), .val (.int kv), .val (.int (own_b (¬ ((p2 &&& (2 : Int32)) = (0 : Int32))))), .val (.ref b195), .unset] [(.int (6 : Int32)), (.int kv)])) _
                    refine XS.icmpYes X247.here hx rfl (pc0 := 133) (pc' := 141) rfl (hb hby at_133) rfl (flt (own_no hc253 (by decide))).2.2.2 (by decide) (by decide) ?_
                    show Steps p.tables e below (T247.setTop (mkF m 141 #[.val (.int p0), .val (.int p1), .val (.int p2), .val (.int sz), .val (.int kv), .val (.int (own_b (¬ ((p2 &&& (2 : Int32)) = (0 : Int32))))), .val (.ref b195), .unset] [])) _
                    refine XS.iload X247.here hx rfl (hb hby at_141) rfl  ?_
                    show Steps p.tables e below (T247.setTop (mkF m 143 #[.val (.int p0), .val (.int p1), .val (.int p2), .val (.int sz), .val (.int kv), .val (.int (own_b (¬ ((p2 &&& (2 : Int32)) = (0 : Int32))))), .val (.ref b195), .unset] [(.int kv)])) _
                    refine XS.iloadN X247.here hx rfl (hb hby at_143) rfl  ?_
                    exact kZ)
                  have pre278 : ∀ tZ, Steps p.tables e below (T247.setTop (mkF m 152 #[.val (.int p0), .val (.int p1), .val (.int p2), .val (.int sz), .val (.int kv), .val (.int (own_b (¬ ((p2 &&& (2 : Int32)) = (0 : Int32))))), .val (.ref b195), .unset] [(.int (own_b (¬ (kv < sz))))])) tZ → Steps p.tables e below (s₁.setTop (entryFrame m #[(.int p0), (.int p1), (.int p2)] maxLocals)) tZ := fun tZ kZ => pre276 tZ (by
                    by_cases hc277 : kv < sz
                    ·  -- yes
                      show Steps p.tables e below (T247.setTop (mkF m 144 #[.val (.int p0), .val (.int p1), .val (.int p2), .val (.int sz), .val (.int kv), .val (.int (own_b (¬ ((p2 &&& (2 : Int32)) = (0 : Int32))))), .val (.ref b195), .unset] [(.int sz), (.int kv)])) _
                      refine XS.icmpYes X247.here hx rfl (pc0 := 144) (pc' := 151) rfl (hb hby at_144) rfl (tlt hc277).1 (by decide) (by decide) ?_
                      show Steps p.tables e below (T247.setTop (mkF m 151 #[.val (.int p0), .val (.int p1), .val (.int p2), .val (.int sz), .val (.int kv), .val (.int (own_b (¬ ((p2 &&& (2 : Int32)) = (0 : Int32))))), .val (.ref b195), .unset] [])) _
                      refine XS.iconst X247.here hx rfl (hb hby at_151) ?_
                      have ekZ : (own_b (¬ (kv < sz))) = (0 : Int32) := by first | (simp only [own_b, eq_true hc277, and_true, true_and, and_false, false_and, or_true, true_or, or_false, false_or, not_true_eq_false, not_false_eq_true, if_true, if_false, reduceIte]; done) | (simp [own_b, hc277]; done)
                      rw [ekZ] at kZ
                      exact kZ
                    ·  -- no
                      show Steps p.tables e below (T247.setTop (mkF m 144 #[.val (.int p0), .val (.int p1), .val (.int p2), .val (.int sz), .val (.int kv), .val (.int (own_b (¬ ((p2 &&& (2 : Int32)) = (0 : Int32))))), .val (.ref b195), .unset] [(.int sz), (.int kv)])) _
                      refine XS.icmpNo X247.here hx rfl (hb hby at_144) rfl (flt hc277).1 ?_
                      show Steps p.tables e below (T247.setTop (mkF m 147 #[.val (.int p0), .val (.int p1), .val (.int p2), .val (.int sz), .val (.int kv), .val (.int (own_b (¬ ((p2 &&& (2 : Int32)) = (0 : Int32))))), .val (.ref b195), .unset] [])) _
                      refine XS.iconst X247.here hx rfl (hb hby at_147) ?_
                      show Steps p.tables e below (T247.setTop (mkF m 148 #[.val (.int p0), .val (.int p1), .val (.int p2), .val (.int sz), .val (.int kv), .val (.int (own_b (¬ ((p2 &&& (2 : Int32)) = (0 : Int32))))), .val (.ref b195), .unset] [(.int (1 : Int32))])) _
                      refine XS.goto X247.here hx rfl (pc0 := 148) (pc' := 152) rfl (hb hby at_148) (by decide) (by decide) ?_
                      have ekZ : (own_b (¬ (kv < sz))) = (1 : Int32) := by first | (simp only [own_b, eq_false hc277, and_true, true_and, and_false, false_and, or_true, true_or, or_false, false_or, not_true_eq_false, not_false_eq_true, if_true, if_false, reduceIte]; done) | (simp [own_b, hc277]; done)
                      rw [ekZ] at kZ
                      exact kZ)
                  obtain ⟨cq279, kq279, q279a, q279b, q279c⟩ := isOf hZ rfl f247_0
                  obtain ⟨_, _, ⟨T279, L279, k279, n279⟩, -, X279, ⟨Lc279, hQ279, l279, y279, z279⟩, st279⟩ := X247.virtualBack hx (y := (⟨oE, "full", "()Z"⟩ : MethodName)) (z := (⟨oE, "full", "()Z"⟩ : MethodName)) hown (mvT hZ (ow hw 91 rfl)) (mvT hZ (ow hw 92 rfl)) (notFace_of_selects (args := #[]) (mvT hZ (ow hw 94 rfl))) (mvT hZ (ow hw 94 rfl)) (mvT hZ (ow hw 93 rfl)) (by decide) (backOf (W := 0) (rm16 l Z a0 hw [] b195 sz ((((((0 : Int64) + (1 : Int64)) + (1 : Int64)) + (1 : Int64)) + (1 : Int64)) + (1 : Int64)) T247.heap n0 Z251 f247_2 f247_3) hZ (ow hw 95 rfl) (ow hw 7 rfl) (by decide) (by decide)) q279a q279c (g := (mkF m 156 #[.val (.int p0), .val (.int p1), .val (.int p2), .val (.int sz), .val (.int kv), .val (.int (own_b (¬ ((p2 &&& (2 : Int32)) = (0 : Int32))))), .val (.ref b195), .val (.int (own_b (¬ (kv < sz))))] [(.ref b195)])) rfl (by rw [hml]; rfl) (Steps.refl _) (argsL := []) (rest := []) (lenOf pd8 rfl) rfl (by show 2 * 0 + _ ≤ _; exact Nat.le_of_eq rfl) (hb hby at_156) (fun _ _ => ⟨rfl, rfl, (by decide : 3 + 0 ≤ _), (by decide : 8 + 0 ≤ _)⟩)
                  dsimp only [Pt.U, Pt.locs, Pt.cells, Pt.slots] at X279 l279 y279 z279 st279 hQ279
                  subst l279 y279 z279
                  obtain ⟨rfl, N279q, e279⟩ := hQ279
                  have N279 := Fr.app N247 N279q
                  obtain ⟨fsZ, hrZ, hrun, hended, hW, hsame⟩ := X279.leave (v := some (.int (1 : Int32))) (fun h => by rw [Bd.returns] at h; cases h)
                  refine ⟨_, _, pre278 _ ?_, hrun, hended, _, _, rfl, ?_, ⟨_, rfl⟩, hW, hsame.mono (by decide) (by decide)⟩
                  · show Steps p.tables e below (T247.setTop (mkF m 152 #[.val (.int p0), .val (.int p1), .val (.int p2), .val (.int sz), .val (.int kv), .val (.int (own_b (¬ ((p2 &&& (2 : Int32)) = (0 : Int32))))), .val (.ref b195), .unset] [(.int (own_b (¬ (kv < sz))))])) _
                    refine XS.istore X247.here hx rfl (hb hby at_152) rfl (l' := #[.val (.int p0), .val (.int p1), .val (.int p2), .val (.int sz), .val (.int kv), .val (.int (own_b (¬ ((p2 &&& (2 : Int32)) = (0 : Int32))))), .val (.ref b195), .val (.int (own_b (¬ (kv < sz))))]) rfl ?_
                    show Steps p.tables e below (T247.setTop (mkF m 154 #[.val (.int p0), .val (.int p1), .val (.int p2), .val (.int sz), .val (.int kv), .val (.int (own_b (¬ ((p2 &&& (2 : Int32)) = (0 : Int32))))), .val (.ref b195), .val (.int (own_b (¬ (kv < sz))))] [])) _
                    refine XS.aload X247.here hx rfl (hb hby at_154) rfl rfl ?_
                    show Steps p.tables e below (T247.setTop (mkF m 156 #[.val (.int p0), .val (.int p1), .val (.int p2), .val (.int sz), .val (.int kv), .val (.int (own_b (¬ ((p2 &&& (2 : Int32)) = (0 : Int32))))), .val (.ref b195), .val (.int (own_b (¬ (kv < sz))))] [(.ref b195)])) _
                    refine st279.trans ?_
                    show Steps p.tables e below (T279.setTop (mkF m 159 #[.val (.int p0), .val (.int p1), .val (.int p2), .val (.int sz), .val (.int kv), .val (.int (own_b (¬ ((p2 &&& (2 : Int32)) = (0 : Int32))))), .val (.ref b195), .val (.int (own_b (¬ (kv < sz))))] [(.int (own_b (¬ (((((((0 : Int64) + (1 : Int64)) + (1 : Int64)) + (1 : Int64)) + (1 : Int64)) + (1 : Int64)) < (sz.toInt64)))))])) _
                    refine XS.iload X279.here hx rfl (hb hby at_159) rfl  ?_
                    show Steps p.tables e below (T279.setTop (mkF m 161 #[.val (.int p0), .val (.int p1), .val (.int p2), .val (.int sz), .val (.int kv), .val (.int (own_b (¬ ((p2 &&& (2 : Int32)) = (0 : Int32))))), .val (.ref b195), .val (.int (own_b (¬ (kv < sz))))] [(.int (own_b (¬ (kv < sz)))), (.int (own_b (¬ (((((((0 : Int64) + (1 : Int64)) + (1 : Int64)) + (1 : Int64)) + (1 : Int64)) + (1 : Int64)) < (sz.toInt64)))))])) _
                    refine XS.icmpNo X279.here hx rfl (hb hby at_161) rfl (teq (own_fin 5 hsz (by decide) (own_eqk 5 (hc245) hc253 (by decide) (by decide)))).2 ?_
                    show Steps p.tables e below (T279.setTop (mkF m 164 #[.val (.int p0), .val (.int p1), .val (.int p2), .val (.int sz), .val (.int kv), .val (.int (own_b (¬ ((p2 &&& (2 : Int32)) = (0 : Int32))))), .val (.ref b195), .val (.int (own_b (¬ (kv < sz))))] [])) _
                    refine XS.iconst X279.here hx rfl (hb hby at_164) ?_
                    show Steps p.tables e below (T279.setTop (mkF m 165 #[.val (.int p0), .val (.int p1), .val (.int p2), .val (.int sz), .val (.int kv), .val (.int (own_b (¬ ((p2 &&& (2 : Int32)) = (0 : Int32))))), .val (.ref b195), .val (.int (own_b (¬ (kv < sz))))] [(.int (1 : Int32))])) _
                    refine XS.goto X279.here hx rfl (pc0 := 165) (pc' := 169) rfl (hb hby at_165) (by decide) (by decide) ?_
                    show Steps p.tables e below (T279.setTop (mkF m 169 #[.val (.int p0), .val (.int p1), .val (.int p2), .val (.int sz), .val (.int kv), .val (.int (own_b (¬ ((p2 &&& (2 : Int32)) = (0 : Int32))))), .val (.ref b195), .val (.int (own_b (¬ (kv < sz))))] [(.int (1 : Int32))])) _
                    exact retN X279 hx (t := .boolean) Bd.returns (by simp) (hb hby at_169) hrZ
                  · show Q0 Z p0 p1 p2 h0 n0 _ T279.heap _
                    rw [e279]
                    exact ⟨rfl, N279⟩
              ·  -- no
                have pre280 : ∀ tZ, Steps p.tables e below (T239.setTop (mkF m 144 #[.val (.int p0), .val (.int p1), .val (.int p2), .val (.int sz), .val (.int kv), .val (.int (own_b (¬ ((p2 &&& (2 : Int32)) = (0 : Int32))))), .val (.ref b195), .unset] [(.int sz), (.int kv)])) tZ → Steps p.tables e below (s₁.setTop (entryFrame m #[(.int p0), (.int p1), (.int p2)] maxLocals)) tZ := fun tZ kZ => pre244 tZ (by
                  show Steps p.tables e below (T239.setTop (mkF m 110 #[.val (.int p0), .val (.int p1), .val (.int p2), .val (.int sz), .val (.int kv), .val (.int (own_b (¬ ((p2 &&& (2 : Int32)) = (0 : Int32))))), .val (.ref b195), .unset] [(.int (4 : Int32)), (.int kv)])) _
                  refine XS.icmpYes X239.here hx rfl (pc0 := 110) (pc' := 118) rfl (hb hby at_110) rfl (flt hc245).2.2.2 (by decide) (by decide) ?_
                  show Steps p.tables e below (T239.setTop (mkF m 118 #[.val (.int p0), .val (.int p1), .val (.int p2), .val (.int sz), .val (.int kv), .val (.int (own_b (¬ ((p2 &&& (2 : Int32)) = (0 : Int32))))), .val (.ref b195), .unset] [])) _
                  refine XS.iload X239.here hx rfl (hb hby at_118) rfl  ?_
                  show Steps p.tables e below (T239.setTop (mkF m 120 #[.val (.int p0), .val (.int p1), .val (.int p2), .val (.int sz), .val (.int kv), .val (.int (own_b (¬ ((p2 &&& (2 : Int32)) = (0 : Int32))))), .val (.ref b195), .unset] [(.int kv)])) _
                  refine XS.iconst X239.here hx rfl (hb hby at_120) ?_
                  show Steps p.tables e below (T239.setTop (mkF m 121 #[.val (.int p0), .val (.int p1), .val (.int p2), .val (.int sz), .val (.int kv), .val (.int (own_b (¬ ((p2 &&& (2 : Int32)) = (0 : Int32))))), .val (.ref b195), .unset] [(.int (5 : Int32)), (.int kv)])) _
                  refine XS.icmpYes X239.here hx rfl (pc0 := 121) (pc' := 129) rfl (hb hby at_121) rfl (flt (own_no hc245 (by decide))).2.2.2 (by decide) (by decide) ?_
                  show Steps p.tables e below (T239.setTop (mkF m 129 #[.val (.int p0), .val (.int p1), .val (.int p2), .val (.int sz), .val (.int kv), .val (.int (own_b (¬ ((p2 &&& (2 : Int32)) = (0 : Int32))))), .val (.ref b195), .unset] [])) _
                  refine XS.iload X239.here hx rfl (hb hby at_129) rfl  ?_
                  show Steps p.tables e below (T239.setTop (mkF m 131 #[.val (.int p0), .val (.int p1), .val (.int p2), .val (.int sz), .val (.int kv), .val (.int (own_b (¬ ((p2 &&& (2 : Int32)) = (0 : Int32))))), .val (.ref b195), .unset] [(.int kv)])) _
                  refine XS.bipush X239.here hx rfl (hb hby at_131) ?_
                  show Steps p.tables e below (T239.setTop (mkF m 133 #[.val (.int p0), .val (.int p1), .val (.int p2), .val (.int sz), .val (.int kv), .val (.int (own_b (¬ ((p2 &&& (2 : Int32)) = (0 : Int32))))), .val (.ref b195), .unset] [(.int (6 : Int32)), (.int kv)])) _
                  refine XS.icmpYes X239.here hx rfl (pc0 := 133) (pc' := 141) rfl (hb hby at_133) rfl (flt (own_no hc245 (by decide))).2.2.2 (by decide) (by decide) ?_
                  show Steps p.tables e below (T239.setTop (mkF m 141 #[.val (.int p0), .val (.int p1), .val (.int p2), .val (.int sz), .val (.int kv), .val (.int (own_b (¬ ((p2 &&& (2 : Int32)) = (0 : Int32))))), .val (.ref b195), .unset] [])) _
                  refine XS.iload X239.here hx rfl (hb hby at_141) rfl  ?_
                  show Steps p.tables e below (T239.setTop (mkF m 143 #[.val (.int p0), .val (.int p1), .val (.int p2), .val (.int sz), .val (.int kv), .val (.int (own_b (¬ ((p2 &&& (2 : Int32)) = (0 : Int32))))), .val (.ref b195), .unset] [(.int kv)])) _
                  refine XS.iloadN X239.here hx rfl (hb hby at_143) rfl  ?_
                  exact kZ)
                have pre282 : ∀ tZ, Steps p.tables e below (T239.setTop (mkF m 152 #[.val (.int p0), .val (.int p1), .val (.int p2), .val (.int sz), .val (.int kv), .val (.int (own_b (¬ ((p2 &&& (2 : Int32)) = (0 : Int32))))), .val (.ref b195), .unset] [(.int (own_b (¬ (kv < sz))))])) tZ → Steps p.tables e below (s₁.setTop (entryFrame m #[(.int p0), (.int p1), (.int p2)] maxLocals)) tZ := fun tZ kZ => pre280 tZ (by
                  by_cases hc281 : kv < sz
                  ·  -- yes
                    show Steps p.tables e below (T239.setTop (mkF m 144 #[.val (.int p0), .val (.int p1), .val (.int p2), .val (.int sz), .val (.int kv), .val (.int (own_b (¬ ((p2 &&& (2 : Int32)) = (0 : Int32))))), .val (.ref b195), .unset] [(.int sz), (.int kv)])) _
                    refine XS.icmpYes X239.here hx rfl (pc0 := 144) (pc' := 151) rfl (hb hby at_144) rfl (tlt hc281).1 (by decide) (by decide) ?_
                    show Steps p.tables e below (T239.setTop (mkF m 151 #[.val (.int p0), .val (.int p1), .val (.int p2), .val (.int sz), .val (.int kv), .val (.int (own_b (¬ ((p2 &&& (2 : Int32)) = (0 : Int32))))), .val (.ref b195), .unset] [])) _
                    refine XS.iconst X239.here hx rfl (hb hby at_151) ?_
                    have ekZ : (own_b (¬ (kv < sz))) = (0 : Int32) := by first | (simp only [own_b, eq_true hc281, and_true, true_and, and_false, false_and, or_true, true_or, or_false, false_or, not_true_eq_false, not_false_eq_true, if_true, if_false, reduceIte]; done) | (simp [own_b, hc281]; done)
                    rw [ekZ] at kZ
                    exact kZ
                  ·  -- no
                    show Steps p.tables e below (T239.setTop (mkF m 144 #[.val (.int p0), .val (.int p1), .val (.int p2), .val (.int sz), .val (.int kv), .val (.int (own_b (¬ ((p2 &&& (2 : Int32)) = (0 : Int32))))), .val (.ref b195), .unset] [(.int sz), (.int kv)])) _
                    refine XS.icmpNo X239.here hx rfl (hb hby at_144) rfl (flt hc281).1 ?_
                    show Steps p.tables e below (T239.setTop (mkF m 147 #[.val (.int p0), .val (.int p1), .val (.int p2), .val (.int sz), .val (.int kv), .val (.int (own_b (¬ ((p2 &&& (2 : Int32)) = (0 : Int32))))), .val (.ref b195), .unset] [])) _
                    refine XS.iconst X239.here hx rfl (hb hby at_147) ?_
                    show Steps p.tables e below (T239.setTop (mkF m 148 #[.val (.int p0), .val (.int p1), .val (.int p2), .val (.int sz), .val (.int kv), .val (.int (own_b (¬ ((p2 &&& (2 : Int32)) = (0 : Int32))))), .val (.ref b195), .unset] [(.int (1 : Int32))])) _
                    refine XS.goto X239.here hx rfl (pc0 := 148) (pc' := 152) rfl (hb hby at_148) (by decide) (by decide) ?_
                    have ekZ : (own_b (¬ (kv < sz))) = (1 : Int32) := by first | (simp only [own_b, eq_false hc281, and_true, true_and, and_false, false_and, or_true, true_or, or_false, false_or, not_true_eq_false, not_false_eq_true, if_true, if_false, reduceIte]; done) | (simp [own_b, hc281]; done)
                    rw [ekZ] at kZ
                    exact kZ)
                obtain ⟨cq283, kq283, q283a, q283b, q283c⟩ := isOf hZ rfl f239_0
                obtain ⟨_, _, ⟨T283, L283, k283, n283⟩, -, X283, ⟨Lc283, hQ283, l283, y283, z283⟩, st283⟩ := X239.virtualBack hx (y := (⟨oE, "full", "()Z"⟩ : MethodName)) (z := (⟨oE, "full", "()Z"⟩ : MethodName)) hown (mvT hZ (ow hw 91 rfl)) (mvT hZ (ow hw 92 rfl)) (notFace_of_selects (args := #[]) (mvT hZ (ow hw 94 rfl))) (mvT hZ (ow hw 94 rfl)) (mvT hZ (ow hw 93 rfl)) (by decide) (backOf (W := 0) (rm16 l Z a0 hw [] b195 sz (((((0 : Int64) + (1 : Int64)) + (1 : Int64)) + (1 : Int64)) + (1 : Int64)) T239.heap n0 Z243 f239_2 f239_3) hZ (ow hw 95 rfl) (ow hw 7 rfl) (by decide) (by decide)) q283a q283c (g := (mkF m 156 #[.val (.int p0), .val (.int p1), .val (.int p2), .val (.int sz), .val (.int kv), .val (.int (own_b (¬ ((p2 &&& (2 : Int32)) = (0 : Int32))))), .val (.ref b195), .val (.int (own_b (¬ (kv < sz))))] [(.ref b195)])) rfl (by rw [hml]; rfl) (Steps.refl _) (argsL := []) (rest := []) (lenOf pd8 rfl) rfl (by show 2 * 0 + _ ≤ _; exact Nat.le_of_eq rfl) (hb hby at_156) (fun _ _ => ⟨rfl, rfl, (by decide : 3 + 0 ≤ _), (by decide : 8 + 0 ≤ _)⟩)
                dsimp only [Pt.U, Pt.locs, Pt.cells, Pt.slots] at X283 l283 y283 z283 st283 hQ283
                subst l283 y283 z283
                obtain ⟨rfl, N283q, e283⟩ := hQ283
                have N283 := Fr.app N239 N283q
                obtain ⟨fsZ, hrZ, hrun, hended, hW, hsame⟩ := X283.leave (v := some (.int (1 : Int32))) (fun h => by rw [Bd.returns] at h; cases h)
                refine ⟨_, _, pre282 _ ?_, hrun, hended, _, _, rfl, ?_, ⟨_, rfl⟩, hW, hsame.mono (by decide) (by decide)⟩
                · show Steps p.tables e below (T239.setTop (mkF m 152 #[.val (.int p0), .val (.int p1), .val (.int p2), .val (.int sz), .val (.int kv), .val (.int (own_b (¬ ((p2 &&& (2 : Int32)) = (0 : Int32))))), .val (.ref b195), .unset] [(.int (own_b (¬ (kv < sz))))])) _
                  refine XS.istore X239.here hx rfl (hb hby at_152) rfl (l' := #[.val (.int p0), .val (.int p1), .val (.int p2), .val (.int sz), .val (.int kv), .val (.int (own_b (¬ ((p2 &&& (2 : Int32)) = (0 : Int32))))), .val (.ref b195), .val (.int (own_b (¬ (kv < sz))))]) rfl ?_
                  show Steps p.tables e below (T239.setTop (mkF m 154 #[.val (.int p0), .val (.int p1), .val (.int p2), .val (.int sz), .val (.int kv), .val (.int (own_b (¬ ((p2 &&& (2 : Int32)) = (0 : Int32))))), .val (.ref b195), .val (.int (own_b (¬ (kv < sz))))] [])) _
                  refine XS.aload X239.here hx rfl (hb hby at_154) rfl rfl ?_
                  show Steps p.tables e below (T239.setTop (mkF m 156 #[.val (.int p0), .val (.int p1), .val (.int p2), .val (.int sz), .val (.int kv), .val (.int (own_b (¬ ((p2 &&& (2 : Int32)) = (0 : Int32))))), .val (.ref b195), .val (.int (own_b (¬ (kv < sz))))] [(.ref b195)])) _
                  refine st283.trans ?_
                  show Steps p.tables e below (T283.setTop (mkF m 159 #[.val (.int p0), .val (.int p1), .val (.int p2), .val (.int sz), .val (.int kv), .val (.int (own_b (¬ ((p2 &&& (2 : Int32)) = (0 : Int32))))), .val (.ref b195), .val (.int (own_b (¬ (kv < sz))))] [(.int (own_b (¬ ((((((0 : Int64) + (1 : Int64)) + (1 : Int64)) + (1 : Int64)) + (1 : Int64)) < (sz.toInt64)))))])) _
                  refine XS.iload X283.here hx rfl (hb hby at_159) rfl  ?_
                  show Steps p.tables e below (T283.setTop (mkF m 161 #[.val (.int p0), .val (.int p1), .val (.int p2), .val (.int sz), .val (.int kv), .val (.int (own_b (¬ ((p2 &&& (2 : Int32)) = (0 : Int32))))), .val (.ref b195), .val (.int (own_b (¬ (kv < sz))))] [(.int (own_b (¬ (kv < sz)))), (.int (own_b (¬ ((((((0 : Int64) + (1 : Int64)) + (1 : Int64)) + (1 : Int64)) + (1 : Int64)) < (sz.toInt64)))))])) _
                  refine XS.icmpNo X283.here hx rfl (hb hby at_161) rfl (teq (own_fin 4 hsz (by decide) (own_eqk 4 (hc237) hc245 (by decide) (by decide)))).2 ?_
                  show Steps p.tables e below (T283.setTop (mkF m 164 #[.val (.int p0), .val (.int p1), .val (.int p2), .val (.int sz), .val (.int kv), .val (.int (own_b (¬ ((p2 &&& (2 : Int32)) = (0 : Int32))))), .val (.ref b195), .val (.int (own_b (¬ (kv < sz))))] [])) _
                  refine XS.iconst X283.here hx rfl (hb hby at_164) ?_
                  show Steps p.tables e below (T283.setTop (mkF m 165 #[.val (.int p0), .val (.int p1), .val (.int p2), .val (.int sz), .val (.int kv), .val (.int (own_b (¬ ((p2 &&& (2 : Int32)) = (0 : Int32))))), .val (.ref b195), .val (.int (own_b (¬ (kv < sz))))] [(.int (1 : Int32))])) _
                  refine XS.goto X283.here hx rfl (pc0 := 165) (pc' := 169) rfl (hb hby at_165) (by decide) (by decide) ?_
                  show Steps p.tables e below (T283.setTop (mkF m 169 #[.val (.int p0), .val (.int p1), .val (.int p2), .val (.int sz), .val (.int kv), .val (.int (own_b (¬ ((p2 &&& (2 : Int32)) = (0 : Int32))))), .val (.ref b195), .val (.int (own_b (¬ (kv < sz))))] [(.int (1 : Int32))])) _
                  exact retN X283 hx (t := .boolean) Bd.returns (by simp) (hb hby at_169) hrZ
                · show Q0 Z p0 p1 p2 h0 n0 _ T283.heap _
                  rw [e283]
                  exact ⟨rfl, N283⟩
            ·  -- no
              have pre284 : ∀ tZ, Steps p.tables e below (T231.setTop (mkF m 144 #[.val (.int p0), .val (.int p1), .val (.int p2), .val (.int sz), .val (.int kv), .val (.int (own_b (¬ ((p2 &&& (2 : Int32)) = (0 : Int32))))), .val (.ref b195), .unset] [(.int sz), (.int kv)])) tZ → Steps p.tables e below (s₁.setTop (entryFrame m #[(.int p0), (.int p1), (.int p2)] maxLocals)) tZ := fun tZ kZ => pre236 tZ (by
                show Steps p.tables e below (T231.setTop (mkF m 99 #[.val (.int p0), .val (.int p1), .val (.int p2), .val (.int sz), .val (.int kv), .val (.int (own_b (¬ ((p2 &&& (2 : Int32)) = (0 : Int32))))), .val (.ref b195), .unset] [(.int (3 : Int32)), (.int kv)])) _
                refine XS.icmpYes X231.here hx rfl (pc0 := 99) (pc' := 107) rfl (hb hby at_99) rfl (flt hc237).2.2.2 (by decide) (by decide) ?_
                show Steps p.tables e below (T231.setTop (mkF m 107 #[.val (.int p0), .val (.int p1), .val (.int p2), .val (.int sz), .val (.int kv), .val (.int (own_b (¬ ((p2 &&& (2 : Int32)) = (0 : Int32))))), .val (.ref b195), .unset] [])) _
                refine XS.iload X231.here hx rfl (hb hby at_107) rfl  ?_
                show Steps p.tables e below (T231.setTop (mkF m 109 #[.val (.int p0), .val (.int p1), .val (.int p2), .val (.int sz), .val (.int kv), .val (.int (own_b (¬ ((p2 &&& (2 : Int32)) = (0 : Int32))))), .val (.ref b195), .unset] [(.int kv)])) _
                refine XS.iconst X231.here hx rfl (hb hby at_109) ?_
                show Steps p.tables e below (T231.setTop (mkF m 110 #[.val (.int p0), .val (.int p1), .val (.int p2), .val (.int sz), .val (.int kv), .val (.int (own_b (¬ ((p2 &&& (2 : Int32)) = (0 : Int32))))), .val (.ref b195), .unset] [(.int (4 : Int32)), (.int kv)])) _
                refine XS.icmpYes X231.here hx rfl (pc0 := 110) (pc' := 118) rfl (hb hby at_110) rfl (flt (own_no hc237 (by decide))).2.2.2 (by decide) (by decide) ?_
                show Steps p.tables e below (T231.setTop (mkF m 118 #[.val (.int p0), .val (.int p1), .val (.int p2), .val (.int sz), .val (.int kv), .val (.int (own_b (¬ ((p2 &&& (2 : Int32)) = (0 : Int32))))), .val (.ref b195), .unset] [])) _
                refine XS.iload X231.here hx rfl (hb hby at_118) rfl  ?_
                show Steps p.tables e below (T231.setTop (mkF m 120 #[.val (.int p0), .val (.int p1), .val (.int p2), .val (.int sz), .val (.int kv), .val (.int (own_b (¬ ((p2 &&& (2 : Int32)) = (0 : Int32))))), .val (.ref b195), .unset] [(.int kv)])) _
                refine XS.iconst X231.here hx rfl (hb hby at_120) ?_
                show Steps p.tables e below (T231.setTop (mkF m 121 #[.val (.int p0), .val (.int p1), .val (.int p2), .val (.int sz), .val (.int kv), .val (.int (own_b (¬ ((p2 &&& (2 : Int32)) = (0 : Int32))))), .val (.ref b195), .unset] [(.int (5 : Int32)), (.int kv)])) _
                refine XS.icmpYes X231.here hx rfl (pc0 := 121) (pc' := 129) rfl (hb hby at_121) rfl (flt (own_no hc237 (by decide))).2.2.2 (by decide) (by decide) ?_
                show Steps p.tables e below (T231.setTop (mkF m 129 #[.val (.int p0), .val (.int p1), .val (.int p2), .val (.int sz), .val (.int kv), .val (.int (own_b (¬ ((p2 &&& (2 : Int32)) = (0 : Int32))))), .val (.ref b195), .unset] [])) _
                refine XS.iload X231.here hx rfl (hb hby at_129) rfl  ?_
                show Steps p.tables e below (T231.setTop (mkF m 131 #[.val (.int p0), .val (.int p1), .val (.int p2), .val (.int sz), .val (.int kv), .val (.int (own_b (¬ ((p2 &&& (2 : Int32)) = (0 : Int32))))), .val (.ref b195), .unset] [(.int kv)])) _
                refine XS.bipush X231.here hx rfl (hb hby at_131) ?_
                show Steps p.tables e below (T231.setTop (mkF m 133 #[.val (.int p0), .val (.int p1), .val (.int p2), .val (.int sz), .val (.int kv), .val (.int (own_b (¬ ((p2 &&& (2 : Int32)) = (0 : Int32))))), .val (.ref b195), .unset] [(.int (6 : Int32)), (.int kv)])) _
                refine XS.icmpYes X231.here hx rfl (pc0 := 133) (pc' := 141) rfl (hb hby at_133) rfl (flt (own_no hc237 (by decide))).2.2.2 (by decide) (by decide) ?_
                show Steps p.tables e below (T231.setTop (mkF m 141 #[.val (.int p0), .val (.int p1), .val (.int p2), .val (.int sz), .val (.int kv), .val (.int (own_b (¬ ((p2 &&& (2 : Int32)) = (0 : Int32))))), .val (.ref b195), .unset] [])) _
                refine XS.iload X231.here hx rfl (hb hby at_141) rfl  ?_
                show Steps p.tables e below (T231.setTop (mkF m 143 #[.val (.int p0), .val (.int p1), .val (.int p2), .val (.int sz), .val (.int kv), .val (.int (own_b (¬ ((p2 &&& (2 : Int32)) = (0 : Int32))))), .val (.ref b195), .unset] [(.int kv)])) _
                refine XS.iloadN X231.here hx rfl (hb hby at_143) rfl  ?_
                exact kZ)
              have pre286 : ∀ tZ, Steps p.tables e below (T231.setTop (mkF m 152 #[.val (.int p0), .val (.int p1), .val (.int p2), .val (.int sz), .val (.int kv), .val (.int (own_b (¬ ((p2 &&& (2 : Int32)) = (0 : Int32))))), .val (.ref b195), .unset] [(.int (own_b (¬ (kv < sz))))])) tZ → Steps p.tables e below (s₁.setTop (entryFrame m #[(.int p0), (.int p1), (.int p2)] maxLocals)) tZ := fun tZ kZ => pre284 tZ (by
                by_cases hc285 : kv < sz
                ·  -- yes
                  show Steps p.tables e below (T231.setTop (mkF m 144 #[.val (.int p0), .val (.int p1), .val (.int p2), .val (.int sz), .val (.int kv), .val (.int (own_b (¬ ((p2 &&& (2 : Int32)) = (0 : Int32))))), .val (.ref b195), .unset] [(.int sz), (.int kv)])) _
                  refine XS.icmpYes X231.here hx rfl (pc0 := 144) (pc' := 151) rfl (hb hby at_144) rfl (tlt hc285).1 (by decide) (by decide) ?_
                  show Steps p.tables e below (T231.setTop (mkF m 151 #[.val (.int p0), .val (.int p1), .val (.int p2), .val (.int sz), .val (.int kv), .val (.int (own_b (¬ ((p2 &&& (2 : Int32)) = (0 : Int32))))), .val (.ref b195), .unset] [])) _
                  refine XS.iconst X231.here hx rfl (hb hby at_151) ?_
                  have ekZ : (own_b (¬ (kv < sz))) = (0 : Int32) := by first | (simp only [own_b, eq_true hc285, and_true, true_and, and_false, false_and, or_true, true_or, or_false, false_or, not_true_eq_false, not_false_eq_true, if_true, if_false, reduceIte]; done) | (simp [own_b, hc285]; done)
                  rw [ekZ] at kZ
                  exact kZ
                ·  -- no
                  show Steps p.tables e below (T231.setTop (mkF m 144 #[.val (.int p0), .val (.int p1), .val (.int p2), .val (.int sz), .val (.int kv), .val (.int (own_b (¬ ((p2 &&& (2 : Int32)) = (0 : Int32))))), .val (.ref b195), .unset] [(.int sz), (.int kv)])) _
                  refine XS.icmpNo X231.here hx rfl (hb hby at_144) rfl (flt hc285).1 ?_
                  show Steps p.tables e below (T231.setTop (mkF m 147 #[.val (.int p0), .val (.int p1), .val (.int p2), .val (.int sz), .val (.int kv), .val (.int (own_b (¬ ((p2 &&& (2 : Int32)) = (0 : Int32))))), .val (.ref b195), .unset] [])) _
                  refine XS.iconst X231.here hx rfl (hb hby at_147) ?_
                  show Steps p.tables e below (T231.setTop (mkF m 148 #[.val (.int p0), .val (.int p1), .val (.int p2), .val (.int sz), .val (.int kv), .val (.int (own_b (¬ ((p2 &&& (2 : Int32)) = (0 : Int32))))), .val (.ref b195), .unset] [(.int (1 : Int32))])) _
                  refine XS.goto X231.here hx rfl (pc0 := 148) (pc' := 152) rfl (hb hby at_148) (by decide) (by decide) ?_
                  have ekZ : (own_b (¬ (kv < sz))) = (1 : Int32) := by first | (simp only [own_b, eq_false hc285, and_true, true_and, and_false, false_and, or_true, true_or, or_false, false_or, not_true_eq_false, not_false_eq_true, if_true, if_false, reduceIte]; done) | (simp [own_b, hc285]; done)
                  rw [ekZ] at kZ
                  exact kZ)
              obtain ⟨cq287, kq287, q287a, q287b, q287c⟩ := isOf hZ rfl f231_0
              obtain ⟨_, _, ⟨T287, L287, k287, n287⟩, -, X287, ⟨Lc287, hQ287, l287, y287, z287⟩, st287⟩ := X231.virtualBack hx (y := (⟨oE, "full", "()Z"⟩ : MethodName)) (z := (⟨oE, "full", "()Z"⟩ : MethodName)) hown (mvT hZ (ow hw 91 rfl)) (mvT hZ (ow hw 92 rfl)) (notFace_of_selects (args := #[]) (mvT hZ (ow hw 94 rfl))) (mvT hZ (ow hw 94 rfl)) (mvT hZ (ow hw 93 rfl)) (by decide) (backOf (W := 0) (rm16 l Z a0 hw [] b195 sz ((((0 : Int64) + (1 : Int64)) + (1 : Int64)) + (1 : Int64)) T231.heap n0 Z235 f231_2 f231_3) hZ (ow hw 95 rfl) (ow hw 7 rfl) (by decide) (by decide)) q287a q287c (g := (mkF m 156 #[.val (.int p0), .val (.int p1), .val (.int p2), .val (.int sz), .val (.int kv), .val (.int (own_b (¬ ((p2 &&& (2 : Int32)) = (0 : Int32))))), .val (.ref b195), .val (.int (own_b (¬ (kv < sz))))] [(.ref b195)])) rfl (by rw [hml]; rfl) (Steps.refl _) (argsL := []) (rest := []) (lenOf pd8 rfl) rfl (by show 2 * 0 + _ ≤ _; exact Nat.le_of_eq rfl) (hb hby at_156) (fun _ _ => ⟨rfl, rfl, (by decide : 3 + 0 ≤ _), (by decide : 8 + 0 ≤ _)⟩)
              dsimp only [Pt.U, Pt.locs, Pt.cells, Pt.slots] at X287 l287 y287 z287 st287 hQ287
              subst l287 y287 z287
              obtain ⟨rfl, N287q, e287⟩ := hQ287
              have N287 := Fr.app N231 N287q
              obtain ⟨fsZ, hrZ, hrun, hended, hW, hsame⟩ := X287.leave (v := some (.int (1 : Int32))) (fun h => by rw [Bd.returns] at h; cases h)
              refine ⟨_, _, pre286 _ ?_, hrun, hended, _, _, rfl, ?_, ⟨_, rfl⟩, hW, hsame.mono (by decide) (by decide)⟩
              · show Steps p.tables e below (T231.setTop (mkF m 152 #[.val (.int p0), .val (.int p1), .val (.int p2), .val (.int sz), .val (.int kv), .val (.int (own_b (¬ ((p2 &&& (2 : Int32)) = (0 : Int32))))), .val (.ref b195), .unset] [(.int (own_b (¬ (kv < sz))))])) _
                refine XS.istore X231.here hx rfl (hb hby at_152) rfl (l' := #[.val (.int p0), .val (.int p1), .val (.int p2), .val (.int sz), .val (.int kv), .val (.int (own_b (¬ ((p2 &&& (2 : Int32)) = (0 : Int32))))), .val (.ref b195), .val (.int (own_b (¬ (kv < sz))))]) rfl ?_
                show Steps p.tables e below (T231.setTop (mkF m 154 #[.val (.int p0), .val (.int p1), .val (.int p2), .val (.int sz), .val (.int kv), .val (.int (own_b (¬ ((p2 &&& (2 : Int32)) = (0 : Int32))))), .val (.ref b195), .val (.int (own_b (¬ (kv < sz))))] [])) _
                refine XS.aload X231.here hx rfl (hb hby at_154) rfl rfl ?_
                show Steps p.tables e below (T231.setTop (mkF m 156 #[.val (.int p0), .val (.int p1), .val (.int p2), .val (.int sz), .val (.int kv), .val (.int (own_b (¬ ((p2 &&& (2 : Int32)) = (0 : Int32))))), .val (.ref b195), .val (.int (own_b (¬ (kv < sz))))] [(.ref b195)])) _
                refine st287.trans ?_
                show Steps p.tables e below (T287.setTop (mkF m 159 #[.val (.int p0), .val (.int p1), .val (.int p2), .val (.int sz), .val (.int kv), .val (.int (own_b (¬ ((p2 &&& (2 : Int32)) = (0 : Int32))))), .val (.ref b195), .val (.int (own_b (¬ (kv < sz))))] [(.int (own_b (¬ (((((0 : Int64) + (1 : Int64)) + (1 : Int64)) + (1 : Int64)) < (sz.toInt64)))))])) _
                refine XS.iload X287.here hx rfl (hb hby at_159) rfl  ?_
                show Steps p.tables e below (T287.setTop (mkF m 161 #[.val (.int p0), .val (.int p1), .val (.int p2), .val (.int sz), .val (.int kv), .val (.int (own_b (¬ ((p2 &&& (2 : Int32)) = (0 : Int32))))), .val (.ref b195), .val (.int (own_b (¬ (kv < sz))))] [(.int (own_b (¬ (kv < sz)))), (.int (own_b (¬ (((((0 : Int64) + (1 : Int64)) + (1 : Int64)) + (1 : Int64)) < (sz.toInt64)))))])) _
                refine XS.icmpNo X287.here hx rfl (hb hby at_161) rfl (teq (own_fin 3 hsz (by decide) (own_eqk 3 (hc229) hc237 (by decide) (by decide)))).2 ?_
                show Steps p.tables e below (T287.setTop (mkF m 164 #[.val (.int p0), .val (.int p1), .val (.int p2), .val (.int sz), .val (.int kv), .val (.int (own_b (¬ ((p2 &&& (2 : Int32)) = (0 : Int32))))), .val (.ref b195), .val (.int (own_b (¬ (kv < sz))))] [])) _
                refine XS.iconst X287.here hx rfl (hb hby at_164) ?_
                show Steps p.tables e below (T287.setTop (mkF m 165 #[.val (.int p0), .val (.int p1), .val (.int p2), .val (.int sz), .val (.int kv), .val (.int (own_b (¬ ((p2 &&& (2 : Int32)) = (0 : Int32))))), .val (.ref b195), .val (.int (own_b (¬ (kv < sz))))] [(.int (1 : Int32))])) _
                refine XS.goto X287.here hx rfl (pc0 := 165) (pc' := 169) rfl (hb hby at_165) (by decide) (by decide) ?_
                show Steps p.tables e below (T287.setTop (mkF m 169 #[.val (.int p0), .val (.int p1), .val (.int p2), .val (.int sz), .val (.int kv), .val (.int (own_b (¬ ((p2 &&& (2 : Int32)) = (0 : Int32))))), .val (.ref b195), .val (.int (own_b (¬ (kv < sz))))] [(.int (1 : Int32))])) _
                exact retN X287 hx (t := .boolean) Bd.returns (by simp) (hb hby at_169) hrZ
              · show Q0 Z p0 p1 p2 h0 n0 _ T287.heap _
                rw [e287]
                exact ⟨rfl, N287⟩
          ·  -- no
            have pre288 : ∀ tZ, Steps p.tables e below (T223.setTop (mkF m 144 #[.val (.int p0), .val (.int p1), .val (.int p2), .val (.int sz), .val (.int kv), .val (.int (own_b (¬ ((p2 &&& (2 : Int32)) = (0 : Int32))))), .val (.ref b195), .unset] [(.int sz), (.int kv)])) tZ → Steps p.tables e below (s₁.setTop (entryFrame m #[(.int p0), (.int p1), (.int p2)] maxLocals)) tZ := fun tZ kZ => pre228 tZ (by
              show Steps p.tables e below (T223.setTop (mkF m 88 #[.val (.int p0), .val (.int p1), .val (.int p2), .val (.int sz), .val (.int kv), .val (.int (own_b (¬ ((p2 &&& (2 : Int32)) = (0 : Int32))))), .val (.ref b195), .unset] [(.int (2 : Int32)), (.int kv)])) _
              refine XS.icmpYes X223.here hx rfl (pc0 := 88) (pc' := 96) rfl (hb hby at_88) rfl (flt hc229).2.2.2 (by decide) (by decide) ?_
              show Steps p.tables e below (T223.setTop (mkF m 96 #[.val (.int p0), .val (.int p1), .val (.int p2), .val (.int sz), .val (.int kv), .val (.int (own_b (¬ ((p2 &&& (2 : Int32)) = (0 : Int32))))), .val (.ref b195), .unset] [])) _
              refine XS.iload X223.here hx rfl (hb hby at_96) rfl  ?_
              show Steps p.tables e below (T223.setTop (mkF m 98 #[.val (.int p0), .val (.int p1), .val (.int p2), .val (.int sz), .val (.int kv), .val (.int (own_b (¬ ((p2 &&& (2 : Int32)) = (0 : Int32))))), .val (.ref b195), .unset] [(.int kv)])) _
              refine XS.iconst X223.here hx rfl (hb hby at_98) ?_
              show Steps p.tables e below (T223.setTop (mkF m 99 #[.val (.int p0), .val (.int p1), .val (.int p2), .val (.int sz), .val (.int kv), .val (.int (own_b (¬ ((p2 &&& (2 : Int32)) = (0 : Int32))))), .val (.ref b195), .unset] [(.int (3 : Int32)), (.int kv)])) _
              refine XS.icmpYes X223.here hx rfl (pc0 := 99) (pc' := 107) rfl (hb hby at_99) rfl (flt (own_no hc229 (by decide))).2.2.2 (by decide) (by decide) ?_
              show Steps p.tables e below (T223.setTop (mkF m 107 #[.val (.int p0), .val (.int p1), .val (.int p2), .val (.int sz), .val (.int kv), .val (.int (own_b (¬ ((p2 &&& (2 : Int32)) = (0 : Int32))))), .val (.ref b195), .unset] [])) _
              refine XS.iload X223.here hx rfl (hb hby at_107) rfl  ?_
              show Steps p.tables e below (T223.setTop (mkF m 109 #[.val (.int p0), .val (.int p1), .val (.int p2), .val (.int sz), .val (.int kv), .val (.int (own_b (¬ ((p2 &&& (2 : Int32)) = (0 : Int32))))), .val (.ref b195), .unset] [(.int kv)])) _
              refine XS.iconst X223.here hx rfl (hb hby at_109) ?_
              show Steps p.tables e below (T223.setTop (mkF m 110 #[.val (.int p0), .val (.int p1), .val (.int p2), .val (.int sz), .val (.int kv), .val (.int (own_b (¬ ((p2 &&& (2 : Int32)) = (0 : Int32))))), .val (.ref b195), .unset] [(.int (4 : Int32)), (.int kv)])) _
              refine XS.icmpYes X223.here hx rfl (pc0 := 110) (pc' := 118) rfl (hb hby at_110) rfl (flt (own_no hc229 (by decide))).2.2.2 (by decide) (by decide) ?_
              show Steps p.tables e below (T223.setTop (mkF m 118 #[.val (.int p0), .val (.int p1), .val (.int p2), .val (.int sz), .val (.int kv), .val (.int (own_b (¬ ((p2 &&& (2 : Int32)) = (0 : Int32))))), .val (.ref b195), .unset] [])) _
              refine XS.iload X223.here hx rfl (hb hby at_118) rfl  ?_
              show Steps p.tables e below (T223.setTop (mkF m 120 #[.val (.int p0), .val (.int p1), .val (.int p2), .val (.int sz), .val (.int kv), .val (.int (own_b (¬ ((p2 &&& (2 : Int32)) = (0 : Int32))))), .val (.ref b195), .unset] [(.int kv)])) _
              refine XS.iconst X223.here hx rfl (hb hby at_120) ?_
              show Steps p.tables e below (T223.setTop (mkF m 121 #[.val (.int p0), .val (.int p1), .val (.int p2), .val (.int sz), .val (.int kv), .val (.int (own_b (¬ ((p2 &&& (2 : Int32)) = (0 : Int32))))), .val (.ref b195), .unset] [(.int (5 : Int32)), (.int kv)])) _
              refine XS.icmpYes X223.here hx rfl (pc0 := 121) (pc' := 129) rfl (hb hby at_121) rfl (flt (own_no hc229 (by decide))).2.2.2 (by decide) (by decide) ?_
              show Steps p.tables e below (T223.setTop (mkF m 129 #[.val (.int p0), .val (.int p1), .val (.int p2), .val (.int sz), .val (.int kv), .val (.int (own_b (¬ ((p2 &&& (2 : Int32)) = (0 : Int32))))), .val (.ref b195), .unset] [])) _
              refine XS.iload X223.here hx rfl (hb hby at_129) rfl  ?_
              show Steps p.tables e below (T223.setTop (mkF m 131 #[.val (.int p0), .val (.int p1), .val (.int p2), .val (.int sz), .val (.int kv), .val (.int (own_b (¬ ((p2 &&& (2 : Int32)) = (0 : Int32))))), .val (.ref b195), .unset] [(.int kv)])) _
              refine XS.bipush X223.here hx rfl (hb hby at_131) ?_
              show Steps p.tables e below (T223.setTop (mkF m 133 #[.val (.int p0), .val (.int p1), .val (.int p2), .val (.int sz), .val (.int kv), .val (.int (own_b (¬ ((p2 &&& (2 : Int32)) = (0 : Int32))))), .val (.ref b195), .unset] [(.int (6 : Int32)), (.int kv)])) _
              refine XS.icmpYes X223.here hx rfl (pc0 := 133) (pc' := 141) rfl (hb hby at_133) rfl (flt (own_no hc229 (by decide))).2.2.2 (by decide) (by decide) ?_
              show Steps p.tables e below (T223.setTop (mkF m 141 #[.val (.int p0), .val (.int p1), .val (.int p2), .val (.int sz), .val (.int kv), .val (.int (own_b (¬ ((p2 &&& (2 : Int32)) = (0 : Int32))))), .val (.ref b195), .unset] [])) _
              refine XS.iload X223.here hx rfl (hb hby at_141) rfl  ?_
              show Steps p.tables e below (T223.setTop (mkF m 143 #[.val (.int p0), .val (.int p1), .val (.int p2), .val (.int sz), .val (.int kv), .val (.int (own_b (¬ ((p2 &&& (2 : Int32)) = (0 : Int32))))), .val (.ref b195), .unset] [(.int kv)])) _
              refine XS.iloadN X223.here hx rfl (hb hby at_143) rfl  ?_
              exact kZ)
            have pre290 : ∀ tZ, Steps p.tables e below (T223.setTop (mkF m 152 #[.val (.int p0), .val (.int p1), .val (.int p2), .val (.int sz), .val (.int kv), .val (.int (own_b (¬ ((p2 &&& (2 : Int32)) = (0 : Int32))))), .val (.ref b195), .unset] [(.int (own_b (¬ (kv < sz))))])) tZ → Steps p.tables e below (s₁.setTop (entryFrame m #[(.int p0), (.int p1), (.int p2)] maxLocals)) tZ := fun tZ kZ => pre288 tZ (by
              by_cases hc289 : kv < sz
              ·  -- yes
                show Steps p.tables e below (T223.setTop (mkF m 144 #[.val (.int p0), .val (.int p1), .val (.int p2), .val (.int sz), .val (.int kv), .val (.int (own_b (¬ ((p2 &&& (2 : Int32)) = (0 : Int32))))), .val (.ref b195), .unset] [(.int sz), (.int kv)])) _
                refine XS.icmpYes X223.here hx rfl (pc0 := 144) (pc' := 151) rfl (hb hby at_144) rfl (tlt hc289).1 (by decide) (by decide) ?_
                show Steps p.tables e below (T223.setTop (mkF m 151 #[.val (.int p0), .val (.int p1), .val (.int p2), .val (.int sz), .val (.int kv), .val (.int (own_b (¬ ((p2 &&& (2 : Int32)) = (0 : Int32))))), .val (.ref b195), .unset] [])) _
                refine XS.iconst X223.here hx rfl (hb hby at_151) ?_
                have ekZ : (own_b (¬ (kv < sz))) = (0 : Int32) := by first | (simp only [own_b, eq_true hc289, and_true, true_and, and_false, false_and, or_true, true_or, or_false, false_or, not_true_eq_false, not_false_eq_true, if_true, if_false, reduceIte]; done) | (simp [own_b, hc289]; done)
                rw [ekZ] at kZ
                exact kZ
              ·  -- no
                show Steps p.tables e below (T223.setTop (mkF m 144 #[.val (.int p0), .val (.int p1), .val (.int p2), .val (.int sz), .val (.int kv), .val (.int (own_b (¬ ((p2 &&& (2 : Int32)) = (0 : Int32))))), .val (.ref b195), .unset] [(.int sz), (.int kv)])) _
                refine XS.icmpNo X223.here hx rfl (hb hby at_144) rfl (flt hc289).1 ?_
                show Steps p.tables e below (T223.setTop (mkF m 147 #[.val (.int p0), .val (.int p1), .val (.int p2), .val (.int sz), .val (.int kv), .val (.int (own_b (¬ ((p2 &&& (2 : Int32)) = (0 : Int32))))), .val (.ref b195), .unset] [])) _
                refine XS.iconst X223.here hx rfl (hb hby at_147) ?_
                show Steps p.tables e below (T223.setTop (mkF m 148 #[.val (.int p0), .val (.int p1), .val (.int p2), .val (.int sz), .val (.int kv), .val (.int (own_b (¬ ((p2 &&& (2 : Int32)) = (0 : Int32))))), .val (.ref b195), .unset] [(.int (1 : Int32))])) _
                refine XS.goto X223.here hx rfl (pc0 := 148) (pc' := 152) rfl (hb hby at_148) (by decide) (by decide) ?_
                have ekZ : (own_b (¬ (kv < sz))) = (1 : Int32) := by first | (simp only [own_b, eq_false hc289, and_true, true_and, and_false, false_and, or_true, true_or, or_false, false_or, not_true_eq_false, not_false_eq_true, if_true, if_false, reduceIte]; done) | (simp [own_b, hc289]; done)
                rw [ekZ] at kZ
                exact kZ)
            obtain ⟨cq291, kq291, q291a, q291b, q291c⟩ := isOf hZ rfl f223_0
            obtain ⟨_, _, ⟨T291, L291, k291, n291⟩, -, X291, ⟨Lc291, hQ291, l291, y291, z291⟩, st291⟩ := X223.virtualBack hx (y := (⟨oE, "full", "()Z"⟩ : MethodName)) (z := (⟨oE, "full", "()Z"⟩ : MethodName)) hown (mvT hZ (ow hw 91 rfl)) (mvT hZ (ow hw 92 rfl)) (notFace_of_selects (args := #[]) (mvT hZ (ow hw 94 rfl))) (mvT hZ (ow hw 94 rfl)) (mvT hZ (ow hw 93 rfl)) (by decide) (backOf (W := 0) (rm16 l Z a0 hw [] b195 sz (((0 : Int64) + (1 : Int64)) + (1 : Int64)) T223.heap n0 Z227 f223_2 f223_3) hZ (ow hw 95 rfl) (ow hw 7 rfl) (by decide) (by decide)) q291a q291c (g := (mkF m 156 #[.val (.int p0), .val (.int p1), .val (.int p2), .val (.int sz), .val (.int kv), .val (.int (own_b (¬ ((p2 &&& (2 : Int32)) = (0 : Int32))))), .val (.ref b195), .val (.int (own_b (¬ (kv < sz))))] [(.ref b195)])) rfl (by rw [hml]; rfl) (Steps.refl _) (argsL := []) (rest := []) (lenOf pd8 rfl) rfl (by show 2 * 0 + _ ≤ _; exact Nat.le_of_eq rfl) (hb hby at_156) (fun _ _ => ⟨rfl, rfl, (by decide : 3 + 0 ≤ _), (by decide : 8 + 0 ≤ _)⟩)
            dsimp only [Pt.U, Pt.locs, Pt.cells, Pt.slots] at X291 l291 y291 z291 st291 hQ291
            subst l291 y291 z291
            obtain ⟨rfl, N291q, e291⟩ := hQ291
            have N291 := Fr.app N223 N291q
            obtain ⟨fsZ, hrZ, hrun, hended, hW, hsame⟩ := X291.leave (v := some (.int (1 : Int32))) (fun h => by rw [Bd.returns] at h; cases h)
            refine ⟨_, _, pre290 _ ?_, hrun, hended, _, _, rfl, ?_, ⟨_, rfl⟩, hW, hsame.mono (by decide) (by decide)⟩
            · show Steps p.tables e below (T223.setTop (mkF m 152 #[.val (.int p0), .val (.int p1), .val (.int p2), .val (.int sz), .val (.int kv), .val (.int (own_b (¬ ((p2 &&& (2 : Int32)) = (0 : Int32))))), .val (.ref b195), .unset] [(.int (own_b (¬ (kv < sz))))])) _
              refine XS.istore X223.here hx rfl (hb hby at_152) rfl (l' := #[.val (.int p0), .val (.int p1), .val (.int p2), .val (.int sz), .val (.int kv), .val (.int (own_b (¬ ((p2 &&& (2 : Int32)) = (0 : Int32))))), .val (.ref b195), .val (.int (own_b (¬ (kv < sz))))]) rfl ?_
              show Steps p.tables e below (T223.setTop (mkF m 154 #[.val (.int p0), .val (.int p1), .val (.int p2), .val (.int sz), .val (.int kv), .val (.int (own_b (¬ ((p2 &&& (2 : Int32)) = (0 : Int32))))), .val (.ref b195), .val (.int (own_b (¬ (kv < sz))))] [])) _
              refine XS.aload X223.here hx rfl (hb hby at_154) rfl rfl ?_
              show Steps p.tables e below (T223.setTop (mkF m 156 #[.val (.int p0), .val (.int p1), .val (.int p2), .val (.int sz), .val (.int kv), .val (.int (own_b (¬ ((p2 &&& (2 : Int32)) = (0 : Int32))))), .val (.ref b195), .val (.int (own_b (¬ (kv < sz))))] [(.ref b195)])) _
              refine st291.trans ?_
              show Steps p.tables e below (T291.setTop (mkF m 159 #[.val (.int p0), .val (.int p1), .val (.int p2), .val (.int sz), .val (.int kv), .val (.int (own_b (¬ ((p2 &&& (2 : Int32)) = (0 : Int32))))), .val (.ref b195), .val (.int (own_b (¬ (kv < sz))))] [(.int (own_b (¬ ((((0 : Int64) + (1 : Int64)) + (1 : Int64)) < (sz.toInt64)))))])) _
              refine XS.iload X291.here hx rfl (hb hby at_159) rfl  ?_
              show Steps p.tables e below (T291.setTop (mkF m 161 #[.val (.int p0), .val (.int p1), .val (.int p2), .val (.int sz), .val (.int kv), .val (.int (own_b (¬ ((p2 &&& (2 : Int32)) = (0 : Int32))))), .val (.ref b195), .val (.int (own_b (¬ (kv < sz))))] [(.int (own_b (¬ (kv < sz)))), (.int (own_b (¬ ((((0 : Int64) + (1 : Int64)) + (1 : Int64)) < (sz.toInt64)))))])) _
              refine XS.icmpNo X291.here hx rfl (hb hby at_161) rfl (teq (own_fin 2 hsz (by decide) (own_eqk 2 (hc221) hc229 (by decide) (by decide)))).2 ?_
              show Steps p.tables e below (T291.setTop (mkF m 164 #[.val (.int p0), .val (.int p1), .val (.int p2), .val (.int sz), .val (.int kv), .val (.int (own_b (¬ ((p2 &&& (2 : Int32)) = (0 : Int32))))), .val (.ref b195), .val (.int (own_b (¬ (kv < sz))))] [])) _
              refine XS.iconst X291.here hx rfl (hb hby at_164) ?_
              show Steps p.tables e below (T291.setTop (mkF m 165 #[.val (.int p0), .val (.int p1), .val (.int p2), .val (.int sz), .val (.int kv), .val (.int (own_b (¬ ((p2 &&& (2 : Int32)) = (0 : Int32))))), .val (.ref b195), .val (.int (own_b (¬ (kv < sz))))] [(.int (1 : Int32))])) _
              refine XS.goto X291.here hx rfl (pc0 := 165) (pc' := 169) rfl (hb hby at_165) (by decide) (by decide) ?_
              show Steps p.tables e below (T291.setTop (mkF m 169 #[.val (.int p0), .val (.int p1), .val (.int p2), .val (.int sz), .val (.int kv), .val (.int (own_b (¬ ((p2 &&& (2 : Int32)) = (0 : Int32))))), .val (.ref b195), .val (.int (own_b (¬ (kv < sz))))] [(.int (1 : Int32))])) _
              exact retN X291 hx (t := .boolean) Bd.returns (by simp) (hb hby at_169) hrZ
            · show Q0 Z p0 p1 p2 h0 n0 _ T291.heap _
              rw [e291]
              exact ⟨rfl, N291⟩
        ·  -- no
          have pre292 : ∀ tZ, Steps p.tables e below (T215.setTop (mkF m 144 #[.val (.int p0), .val (.int p1), .val (.int p2), .val (.int sz), .val (.int kv), .val (.int (own_b (¬ ((p2 &&& (2 : Int32)) = (0 : Int32))))), .val (.ref b195), .unset] [(.int sz), (.int kv)])) tZ → Steps p.tables e below (s₁.setTop (entryFrame m #[(.int p0), (.int p1), (.int p2)] maxLocals)) tZ := fun tZ kZ => pre220 tZ (by
            show Steps p.tables e below (T215.setTop (mkF m 77 #[.val (.int p0), .val (.int p1), .val (.int p2), .val (.int sz), .val (.int kv), .val (.int (own_b (¬ ((p2 &&& (2 : Int32)) = (0 : Int32))))), .val (.ref b195), .unset] [(.int (1 : Int32)), (.int kv)])) _
            refine XS.icmpYes X215.here hx rfl (pc0 := 77) (pc' := 85) rfl (hb hby at_77) rfl (flt hc221).2.2.2 (by decide) (by decide) ?_
            show Steps p.tables e below (T215.setTop (mkF m 85 #[.val (.int p0), .val (.int p1), .val (.int p2), .val (.int sz), .val (.int kv), .val (.int (own_b (¬ ((p2 &&& (2 : Int32)) = (0 : Int32))))), .val (.ref b195), .unset] [])) _
            refine XS.iload X215.here hx rfl (hb hby at_85) rfl  ?_
            show Steps p.tables e below (T215.setTop (mkF m 87 #[.val (.int p0), .val (.int p1), .val (.int p2), .val (.int sz), .val (.int kv), .val (.int (own_b (¬ ((p2 &&& (2 : Int32)) = (0 : Int32))))), .val (.ref b195), .unset] [(.int kv)])) _
            refine XS.iconst X215.here hx rfl (hb hby at_87) ?_
            show Steps p.tables e below (T215.setTop (mkF m 88 #[.val (.int p0), .val (.int p1), .val (.int p2), .val (.int sz), .val (.int kv), .val (.int (own_b (¬ ((p2 &&& (2 : Int32)) = (0 : Int32))))), .val (.ref b195), .unset] [(.int (2 : Int32)), (.int kv)])) _
            refine XS.icmpYes X215.here hx rfl (pc0 := 88) (pc' := 96) rfl (hb hby at_88) rfl (flt (own_no hc221 (by decide))).2.2.2 (by decide) (by decide) ?_
            show Steps p.tables e below (T215.setTop (mkF m 96 #[.val (.int p0), .val (.int p1), .val (.int p2), .val (.int sz), .val (.int kv), .val (.int (own_b (¬ ((p2 &&& (2 : Int32)) = (0 : Int32))))), .val (.ref b195), .unset] [])) _
            refine XS.iload X215.here hx rfl (hb hby at_96) rfl  ?_
            show Steps p.tables e below (T215.setTop (mkF m 98 #[.val (.int p0), .val (.int p1), .val (.int p2), .val (.int sz), .val (.int kv), .val (.int (own_b (¬ ((p2 &&& (2 : Int32)) = (0 : Int32))))), .val (.ref b195), .unset] [(.int kv)])) _
            refine XS.iconst X215.here hx rfl (hb hby at_98) ?_
            show Steps p.tables e below (T215.setTop (mkF m 99 #[.val (.int p0), .val (.int p1), .val (.int p2), .val (.int sz), .val (.int kv), .val (.int (own_b (¬ ((p2 &&& (2 : Int32)) = (0 : Int32))))), .val (.ref b195), .unset] [(.int (3 : Int32)), (.int kv)])) _
            refine XS.icmpYes X215.here hx rfl (pc0 := 99) (pc' := 107) rfl (hb hby at_99) rfl (flt (own_no hc221 (by decide))).2.2.2 (by decide) (by decide) ?_
            show Steps p.tables e below (T215.setTop (mkF m 107 #[.val (.int p0), .val (.int p1), .val (.int p2), .val (.int sz), .val (.int kv), .val (.int (own_b (¬ ((p2 &&& (2 : Int32)) = (0 : Int32))))), .val (.ref b195), .unset] [])) _
            refine XS.iload X215.here hx rfl (hb hby at_107) rfl  ?_
            show Steps p.tables e below (T215.setTop (mkF m 109 #[.val (.int p0), .val (.int p1), .val (.int p2), .val (.int sz), .val (.int kv), .val (.int (own_b (¬ ((p2 &&& (2 : Int32)) = (0 : Int32))))), .val (.ref b195), .unset] [(.int kv)])) _
            refine XS.iconst X215.here hx rfl (hb hby at_109) ?_
            show Steps p.tables e below (T215.setTop (mkF m 110 #[.val (.int p0), .val (.int p1), .val (.int p2), .val (.int sz), .val (.int kv), .val (.int (own_b (¬ ((p2 &&& (2 : Int32)) = (0 : Int32))))), .val (.ref b195), .unset] [(.int (4 : Int32)), (.int kv)])) _
            refine XS.icmpYes X215.here hx rfl (pc0 := 110) (pc' := 118) rfl (hb hby at_110) rfl (flt (own_no hc221 (by decide))).2.2.2 (by decide) (by decide) ?_
            show Steps p.tables e below (T215.setTop (mkF m 118 #[.val (.int p0), .val (.int p1), .val (.int p2), .val (.int sz), .val (.int kv), .val (.int (own_b (¬ ((p2 &&& (2 : Int32)) = (0 : Int32))))), .val (.ref b195), .unset] [])) _
            refine XS.iload X215.here hx rfl (hb hby at_118) rfl  ?_
            show Steps p.tables e below (T215.setTop (mkF m 120 #[.val (.int p0), .val (.int p1), .val (.int p2), .val (.int sz), .val (.int kv), .val (.int (own_b (¬ ((p2 &&& (2 : Int32)) = (0 : Int32))))), .val (.ref b195), .unset] [(.int kv)])) _
            refine XS.iconst X215.here hx rfl (hb hby at_120) ?_
            show Steps p.tables e below (T215.setTop (mkF m 121 #[.val (.int p0), .val (.int p1), .val (.int p2), .val (.int sz), .val (.int kv), .val (.int (own_b (¬ ((p2 &&& (2 : Int32)) = (0 : Int32))))), .val (.ref b195), .unset] [(.int (5 : Int32)), (.int kv)])) _
            refine XS.icmpYes X215.here hx rfl (pc0 := 121) (pc' := 129) rfl (hb hby at_121) rfl (flt (own_no hc221 (by decide))).2.2.2 (by decide) (by decide) ?_
            show Steps p.tables e below (T215.setTop (mkF m 129 #[.val (.int p0), .val (.int p1), .val (.int p2), .val (.int sz), .val (.int kv), .val (.int (own_b (¬ ((p2 &&& (2 : Int32)) = (0 : Int32))))), .val (.ref b195), .unset] [])) _
            refine XS.iload X215.here hx rfl (hb hby at_129) rfl  ?_
            show Steps p.tables e below (T215.setTop (mkF m 131 #[.val (.int p0), .val (.int p1), .val (.int p2), .val (.int sz), .val (.int kv), .val (.int (own_b (¬ ((p2 &&& (2 : Int32)) = (0 : Int32))))), .val (.ref b195), .unset] [(.int kv)])) _
            refine XS.bipush X215.here hx rfl (hb hby at_131) ?_
            show Steps p.tables e below (T215.setTop (mkF m 133 #[.val (.int p0), .val (.int p1), .val (.int p2), .val (.int sz), .val (.int kv), .val (.int (own_b (¬ ((p2 &&& (2 : Int32)) = (0 : Int32))))), .val (.ref b195), .unset] [(.int (6 : Int32)), (.int kv)])) _
            refine XS.icmpYes X215.here hx rfl (pc0 := 133) (pc' := 141) rfl (hb hby at_133) rfl (flt (own_no hc221 (by decide))).2.2.2 (by decide) (by decide) ?_
            show Steps p.tables e below (T215.setTop (mkF m 141 #[.val (.int p0), .val (.int p1), .val (.int p2), .val (.int sz), .val (.int kv), .val (.int (own_b (¬ ((p2 &&& (2 : Int32)) = (0 : Int32))))), .val (.ref b195), .unset] [])) _
            refine XS.iload X215.here hx rfl (hb hby at_141) rfl  ?_
            show Steps p.tables e below (T215.setTop (mkF m 143 #[.val (.int p0), .val (.int p1), .val (.int p2), .val (.int sz), .val (.int kv), .val (.int (own_b (¬ ((p2 &&& (2 : Int32)) = (0 : Int32))))), .val (.ref b195), .unset] [(.int kv)])) _
            refine XS.iloadN X215.here hx rfl (hb hby at_143) rfl  ?_
            exact kZ)
          have pre294 : ∀ tZ, Steps p.tables e below (T215.setTop (mkF m 152 #[.val (.int p0), .val (.int p1), .val (.int p2), .val (.int sz), .val (.int kv), .val (.int (own_b (¬ ((p2 &&& (2 : Int32)) = (0 : Int32))))), .val (.ref b195), .unset] [(.int (own_b (¬ (kv < sz))))])) tZ → Steps p.tables e below (s₁.setTop (entryFrame m #[(.int p0), (.int p1), (.int p2)] maxLocals)) tZ := fun tZ kZ => pre292 tZ (by
            by_cases hc293 : kv < sz
            ·  -- yes
              show Steps p.tables e below (T215.setTop (mkF m 144 #[.val (.int p0), .val (.int p1), .val (.int p2), .val (.int sz), .val (.int kv), .val (.int (own_b (¬ ((p2 &&& (2 : Int32)) = (0 : Int32))))), .val (.ref b195), .unset] [(.int sz), (.int kv)])) _
              refine XS.icmpYes X215.here hx rfl (pc0 := 144) (pc' := 151) rfl (hb hby at_144) rfl (tlt hc293).1 (by decide) (by decide) ?_
              show Steps p.tables e below (T215.setTop (mkF m 151 #[.val (.int p0), .val (.int p1), .val (.int p2), .val (.int sz), .val (.int kv), .val (.int (own_b (¬ ((p2 &&& (2 : Int32)) = (0 : Int32))))), .val (.ref b195), .unset] [])) _
              refine XS.iconst X215.here hx rfl (hb hby at_151) ?_
              have ekZ : (own_b (¬ (kv < sz))) = (0 : Int32) := by first | (simp only [own_b, eq_true hc293, and_true, true_and, and_false, false_and, or_true, true_or, or_false, false_or, not_true_eq_false, not_false_eq_true, if_true, if_false, reduceIte]; done) | (simp [own_b, hc293]; done)
              rw [ekZ] at kZ
              exact kZ
            ·  -- no
              show Steps p.tables e below (T215.setTop (mkF m 144 #[.val (.int p0), .val (.int p1), .val (.int p2), .val (.int sz), .val (.int kv), .val (.int (own_b (¬ ((p2 &&& (2 : Int32)) = (0 : Int32))))), .val (.ref b195), .unset] [(.int sz), (.int kv)])) _
              refine XS.icmpNo X215.here hx rfl (hb hby at_144) rfl (flt hc293).1 ?_
              show Steps p.tables e below (T215.setTop (mkF m 147 #[.val (.int p0), .val (.int p1), .val (.int p2), .val (.int sz), .val (.int kv), .val (.int (own_b (¬ ((p2 &&& (2 : Int32)) = (0 : Int32))))), .val (.ref b195), .unset] [])) _
              refine XS.iconst X215.here hx rfl (hb hby at_147) ?_
              show Steps p.tables e below (T215.setTop (mkF m 148 #[.val (.int p0), .val (.int p1), .val (.int p2), .val (.int sz), .val (.int kv), .val (.int (own_b (¬ ((p2 &&& (2 : Int32)) = (0 : Int32))))), .val (.ref b195), .unset] [(.int (1 : Int32))])) _
              refine XS.goto X215.here hx rfl (pc0 := 148) (pc' := 152) rfl (hb hby at_148) (by decide) (by decide) ?_
              have ekZ : (own_b (¬ (kv < sz))) = (1 : Int32) := by first | (simp only [own_b, eq_false hc293, and_true, true_and, and_false, false_and, or_true, true_or, or_false, false_or, not_true_eq_false, not_false_eq_true, if_true, if_false, reduceIte]; done) | (simp [own_b, hc293]; done)
              rw [ekZ] at kZ
              exact kZ)
          obtain ⟨cq295, kq295, q295a, q295b, q295c⟩ := isOf hZ rfl f215_0
          obtain ⟨_, _, ⟨T295, L295, k295, n295⟩, -, X295, ⟨Lc295, hQ295, l295, y295, z295⟩, st295⟩ := X215.virtualBack hx (y := (⟨oE, "full", "()Z"⟩ : MethodName)) (z := (⟨oE, "full", "()Z"⟩ : MethodName)) hown (mvT hZ (ow hw 91 rfl)) (mvT hZ (ow hw 92 rfl)) (notFace_of_selects (args := #[]) (mvT hZ (ow hw 94 rfl))) (mvT hZ (ow hw 94 rfl)) (mvT hZ (ow hw 93 rfl)) (by decide) (backOf (W := 0) (rm16 l Z a0 hw [] b195 sz ((0 : Int64) + (1 : Int64)) T215.heap n0 Z219 f215_2 f215_3) hZ (ow hw 95 rfl) (ow hw 7 rfl) (by decide) (by decide)) q295a q295c (g := (mkF m 156 #[.val (.int p0), .val (.int p1), .val (.int p2), .val (.int sz), .val (.int kv), .val (.int (own_b (¬ ((p2 &&& (2 : Int32)) = (0 : Int32))))), .val (.ref b195), .val (.int (own_b (¬ (kv < sz))))] [(.ref b195)])) rfl (by rw [hml]; rfl) (Steps.refl _) (argsL := []) (rest := []) (lenOf pd8 rfl) rfl (by show 2 * 0 + _ ≤ _; exact Nat.le_of_eq rfl) (hb hby at_156) (fun _ _ => ⟨rfl, rfl, (by decide : 3 + 0 ≤ _), (by decide : 8 + 0 ≤ _)⟩)
          dsimp only [Pt.U, Pt.locs, Pt.cells, Pt.slots] at X295 l295 y295 z295 st295 hQ295
          subst l295 y295 z295
          obtain ⟨rfl, N295q, e295⟩ := hQ295
          have N295 := Fr.app N215 N295q
          obtain ⟨fsZ, hrZ, hrun, hended, hW, hsame⟩ := X295.leave (v := some (.int (1 : Int32))) (fun h => by rw [Bd.returns] at h; cases h)
          refine ⟨_, _, pre294 _ ?_, hrun, hended, _, _, rfl, ?_, ⟨_, rfl⟩, hW, hsame.mono (by decide) (by decide)⟩
          · show Steps p.tables e below (T215.setTop (mkF m 152 #[.val (.int p0), .val (.int p1), .val (.int p2), .val (.int sz), .val (.int kv), .val (.int (own_b (¬ ((p2 &&& (2 : Int32)) = (0 : Int32))))), .val (.ref b195), .unset] [(.int (own_b (¬ (kv < sz))))])) _
            refine XS.istore X215.here hx rfl (hb hby at_152) rfl (l' := #[.val (.int p0), .val (.int p1), .val (.int p2), .val (.int sz), .val (.int kv), .val (.int (own_b (¬ ((p2 &&& (2 : Int32)) = (0 : Int32))))), .val (.ref b195), .val (.int (own_b (¬ (kv < sz))))]) rfl ?_
            show Steps p.tables e below (T215.setTop (mkF m 154 #[.val (.int p0), .val (.int p1), .val (.int p2), .val (.int sz), .val (.int kv), .val (.int (own_b (¬ ((p2 &&& (2 : Int32)) = (0 : Int32))))), .val (.ref b195), .val (.int (own_b (¬ (kv < sz))))] [])) _
            refine XS.aload X215.here hx rfl (hb hby at_154) rfl rfl ?_
            show Steps p.tables e below (T215.setTop (mkF m 156 #[.val (.int p0), .val (.int p1), .val (.int p2), .val (.int sz), .val (.int kv), .val (.int (own_b (¬ ((p2 &&& (2 : Int32)) = (0 : Int32))))), .val (.ref b195), .val (.int (own_b (¬ (kv < sz))))] [(.ref b195)])) _
            refine st295.trans ?_
            show Steps p.tables e below (T295.setTop (mkF m 159 #[.val (.int p0), .val (.int p1), .val (.int p2), .val (.int sz), .val (.int kv), .val (.int (own_b (¬ ((p2 &&& (2 : Int32)) = (0 : Int32))))), .val (.ref b195), .val (.int (own_b (¬ (kv < sz))))] [(.int (own_b (¬ (((0 : Int64) + (1 : Int64)) < (sz.toInt64)))))])) _
            refine XS.iload X295.here hx rfl (hb hby at_159) rfl  ?_
            show Steps p.tables e below (T295.setTop (mkF m 161 #[.val (.int p0), .val (.int p1), .val (.int p2), .val (.int sz), .val (.int kv), .val (.int (own_b (¬ ((p2 &&& (2 : Int32)) = (0 : Int32))))), .val (.ref b195), .val (.int (own_b (¬ (kv < sz))))] [(.int (own_b (¬ (kv < sz)))), (.int (own_b (¬ (((0 : Int64) + (1 : Int64)) < (sz.toInt64)))))])) _
            refine XS.icmpNo X295.here hx rfl (hb hby at_161) rfl (teq (own_fin 1 hsz (by decide) (own_eqk 1 (hc205) hc221 (by decide) (by decide)))).2 ?_
            show Steps p.tables e below (T295.setTop (mkF m 164 #[.val (.int p0), .val (.int p1), .val (.int p2), .val (.int sz), .val (.int kv), .val (.int (own_b (¬ ((p2 &&& (2 : Int32)) = (0 : Int32))))), .val (.ref b195), .val (.int (own_b (¬ (kv < sz))))] [])) _
            refine XS.iconst X295.here hx rfl (hb hby at_164) ?_
            show Steps p.tables e below (T295.setTop (mkF m 165 #[.val (.int p0), .val (.int p1), .val (.int p2), .val (.int sz), .val (.int kv), .val (.int (own_b (¬ ((p2 &&& (2 : Int32)) = (0 : Int32))))), .val (.ref b195), .val (.int (own_b (¬ (kv < sz))))] [(.int (1 : Int32))])) _
            refine XS.goto X295.here hx rfl (pc0 := 165) (pc' := 169) rfl (hb hby at_165) (by decide) (by decide) ?_
            show Steps p.tables e below (T295.setTop (mkF m 169 #[.val (.int p0), .val (.int p1), .val (.int p2), .val (.int sz), .val (.int kv), .val (.int (own_b (¬ ((p2 &&& (2 : Int32)) = (0 : Int32))))), .val (.ref b195), .val (.int (own_b (¬ (kv < sz))))] [(.int (1 : Int32))])) _
            exact retN X295 hx (t := .boolean) Bd.returns (by simp) (hb hby at_169) hrZ
          · show Q0 Z p0 p1 p2 h0 n0 _ T295.heap _
            rw [e295]
            exact ⟨rfl, N295⟩
      ·  -- no
        have pre296 : ∀ tZ, Steps p.tables e below (T207.setTop (mkF m 77 #[.val (.int p0), .val (.int p1), .val (.int p2), .val (.int sz), .val (.int kv), .val (.int (own_b (¬ ((p2 &&& (2 : Int32)) = (0 : Int32))))), .val (.ref b195), .unset] [(.int (1 : Int32)), (.int kv)])) tZ → Steps p.tables e below (s₁.setTop (entryFrame m #[(.int p0), (.int p1), (.int p2)] maxLocals)) tZ := fun tZ kZ => pre212 tZ (by
          show Steps p.tables e below (T207.setTop (mkF m 66 #[.val (.int p0), .val (.int p1), .val (.int p2), .val (.int sz), .val (.int kv), .val (.int (own_b (¬ ((p2 &&& (2 : Int32)) = (0 : Int32))))), .val (.ref b195), .unset] [(.int (own_b (¬ ((p2 &&& (2 : Int32)) = (0 : Int32)))))])) _
          refine XS.ifYes X207.here hx rfl (pc0 := 66) (pc' := 74) rfl (hb hby at_66) rfl ((if0 _ _).trans (teq (own_b_f hc213)).1) (by decide) (by decide) ?_
          show Steps p.tables e below (T207.setTop (mkF m 74 #[.val (.int p0), .val (.int p1), .val (.int p2), .val (.int sz), .val (.int kv), .val (.int (own_b (¬ ((p2 &&& (2 : Int32)) = (0 : Int32))))), .val (.ref b195), .unset] [])) _
          refine XS.iload X207.here hx rfl (hb hby at_74) rfl  ?_
          show Steps p.tables e below (T207.setTop (mkF m 76 #[.val (.int p0), .val (.int p1), .val (.int p2), .val (.int sz), .val (.int kv), .val (.int (own_b (¬ ((p2 &&& (2 : Int32)) = (0 : Int32))))), .val (.ref b195), .unset] [(.int kv)])) _
          refine XS.iconst X207.here hx rfl (hb hby at_76) ?_
          exact kZ)
        by_cases hc297 : (1 : Int32) < kv
        ·  -- yes
          have fa298 : Old Z n0 T207.heap := (fa206.keep K207 (allS (P := fun x => n0 ≤ x) gn_b195 (allS (P := fun x => n0 ≤ x) u197_0 (allS (P := fun x => n0 ≤ x) u197_2 all0))))
          obtain ⟨cq299, kq299, q299a, q299b, q299c⟩ := isOf hZ rfl f207_0
          obtain ⟨_, _, ⟨T299, L299, k299, n299⟩, -, X299, ⟨Lc299, hQ299, l299, y299, z299⟩, st299⟩ := X207.virtualBack hx (y := (⟨oE, "take", "()V"⟩ : MethodName)) (z := (⟨oE, "take", "()V"⟩ : MethodName)) hown (mvT hZ (ow hw 40 rfl)) (mvT hZ (ow hw 41 rfl)) (notFace_of_selects (args := #[]) (mvT hZ (ow hw 43 rfl))) (mvT hZ (ow hw 43 rfl)) (mvT hZ (ow hw 42 rfl)) (by decide) (backOf (W := 0) (rm7 l Z a0 hw [] b195 b_198 sz ((0 : Int64) + (1 : Int64)) mn_208 wa_199 kl_200 wn_209 vn_210 T207.heap n0 Z211 f207_0 f207_1 f207_2 f207_3 f207_4 f207_5 f207_6 f207_7 f207_8 hsz (by decide) (by decide) (by first | assumption | decide) S1 fa298 gn_b195 ne202 ne203 u197_0 u197_2 u197_4) hZ (ow hw 44 rfl) (ow hw 7 rfl) (by decide) (by decide)) q299a q299c (g := (mkF m 82 #[.val (.int p0), .val (.int p1), .val (.int p2), .val (.int sz), .val (.int kv), .val (.int (own_b (¬ ((p2 &&& (2 : Int32)) = (0 : Int32))))), .val (.ref b195), .unset] [(.ref b195)])) rfl (by rw [hml]; rfl) (Steps.refl _) (argsL := []) (rest := []) (lenOf pd4 rfl) rfl (by show 2 * 0 + _ ≤ _; exact Nat.le_of_eq rfl) (hb hby at_82) (fun _ _ => ⟨rfl, rfl, (by decide : 3 + 0 ≤ _), (by decide : 8 + 0 ≤ _)⟩)
          dsimp only [Pt.U, Pt.locs, Pt.cells, Pt.slots] at X299 l299 y299 z299 st299 hQ299
          subst l299 y299 z299
          obtain ⟨mn_300, wn_301, vn_302, rfl, N299q, K299, u299_0, f299_0, f299_1, f299_2, f299_3, f299_4, f299_5, f299_6, f299_7, f299_8⟩ := hQ299
          have N299 := Fr.app N207 N299q
          have Z303 : n0 ≤ T299.heap.size := Nat.le_trans Z211 K299.1
          have pre304 : ∀ tZ, Steps p.tables e below (T299.setTop (mkF m 88 #[.val (.int p0), .val (.int p1), .val (.int p2), .val (.int sz), .val (.int kv), .val (.int (own_b (¬ ((p2 &&& (2 : Int32)) = (0 : Int32))))), .val (.ref b195), .unset] [(.int (2 : Int32)), (.int kv)])) tZ → Steps p.tables e below (s₁.setTop (entryFrame m #[(.int p0), (.int p1), (.int p2)] maxLocals)) tZ := fun tZ kZ => pre296 tZ (by
            show Steps p.tables e below (T207.setTop (mkF m 77 #[.val (.int p0), .val (.int p1), .val (.int p2), .val (.int sz), .val (.int kv), .val (.int (own_b (¬ ((p2 &&& (2 : Int32)) = (0 : Int32))))), .val (.ref b195), .unset] [(.int (1 : Int32)), (.int kv)])) _
            refine XS.icmpNo X207.here hx rfl (hb hby at_77) rfl (tlt hc297).2.2.2 ?_
            show Steps p.tables e below (T207.setTop (mkF m 80 #[.val (.int p0), .val (.int p1), .val (.int p2), .val (.int sz), .val (.int kv), .val (.int (own_b (¬ ((p2 &&& (2 : Int32)) = (0 : Int32))))), .val (.ref b195), .unset] [])) _
            refine XS.aload X207.here hx rfl (hb hby at_80) rfl rfl ?_
            show Steps p.tables e below (T207.setTop (mkF m 82 #[.val (.int p0), .val (.int p1), .val (.int p2), .val (.int sz), .val (.int kv), .val (.int (own_b (¬ ((p2 &&& (2 : Int32)) = (0 : Int32))))), .val (.ref b195), .unset] [(.ref b195)])) _
            refine st299.trans ?_
            show Steps p.tables e below (T299.setTop (mkF m 85 #[.val (.int p0), .val (.int p1), .val (.int p2), .val (.int sz), .val (.int kv), .val (.int (own_b (¬ ((p2 &&& (2 : Int32)) = (0 : Int32))))), .val (.ref b195), .unset] [])) _
            refine XS.iload X299.here hx rfl (hb hby at_85) rfl  ?_
            show Steps p.tables e below (T299.setTop (mkF m 87 #[.val (.int p0), .val (.int p1), .val (.int p2), .val (.int sz), .val (.int kv), .val (.int (own_b (¬ ((p2 &&& (2 : Int32)) = (0 : Int32))))), .val (.ref b195), .unset] [(.int kv)])) _
            refine XS.iconst X299.here hx rfl (hb hby at_87) ?_
            exact kZ)
          by_cases hc305 : (2 : Int32) < kv
          ·  -- yes
            have fa306 : Old Z n0 T299.heap := (fa298.keep K299 (allS (P := fun x => n0 ≤ x) gn_b195 (allS (P := fun x => n0 ≤ x) u197_0 (allS (P := fun x => n0 ≤ x) u197_2 all0))))
            obtain ⟨cq307, kq307, q307a, q307b, q307c⟩ := isOf hZ rfl f299_0
            obtain ⟨_, _, ⟨T307, L307, k307, n307⟩, -, X307, ⟨Lc307, hQ307, l307, y307, z307⟩, st307⟩ := X299.virtualBack hx (y := (⟨oE, "take", "()V"⟩ : MethodName)) (z := (⟨oE, "take", "()V"⟩ : MethodName)) hown (mvT hZ (ow hw 40 rfl)) (mvT hZ (ow hw 41 rfl)) (notFace_of_selects (args := #[]) (mvT hZ (ow hw 43 rfl))) (mvT hZ (ow hw 43 rfl)) (mvT hZ (ow hw 42 rfl)) (by decide) (backOf (W := 0) (rm7 l Z a0 hw [] b195 b_198 sz (((0 : Int64) + (1 : Int64)) + (1 : Int64)) mn_300 wa_199 kl_200 wn_301 vn_302 T299.heap n0 Z303 f299_0 f299_1 f299_2 f299_3 f299_4 f299_5 f299_6 f299_7 f299_8 hsz (by decide) (by decide) (by first | assumption | decide) S1 fa306 gn_b195 ne202 ne203 u197_0 u197_2 u197_4) hZ (ow hw 44 rfl) (ow hw 7 rfl) (by decide) (by decide)) q307a q307c (g := (mkF m 93 #[.val (.int p0), .val (.int p1), .val (.int p2), .val (.int sz), .val (.int kv), .val (.int (own_b (¬ ((p2 &&& (2 : Int32)) = (0 : Int32))))), .val (.ref b195), .unset] [(.ref b195)])) rfl (by rw [hml]; rfl) (Steps.refl _) (argsL := []) (rest := []) (lenOf pd4 rfl) rfl (by show 2 * 0 + _ ≤ _; exact Nat.le_of_eq rfl) (hb hby at_93) (fun _ _ => ⟨rfl, rfl, (by decide : 3 + 0 ≤ _), (by decide : 8 + 0 ≤ _)⟩)
            dsimp only [Pt.U, Pt.locs, Pt.cells, Pt.slots] at X307 l307 y307 z307 st307 hQ307
            subst l307 y307 z307
            obtain ⟨mn_308, wn_309, vn_310, rfl, N307q, K307, u307_0, f307_0, f307_1, f307_2, f307_3, f307_4, f307_5, f307_6, f307_7, f307_8⟩ := hQ307
            have N307 := Fr.app N299 N307q
            have Z311 : n0 ≤ T307.heap.size := Nat.le_trans Z303 K307.1
            have pre312 : ∀ tZ, Steps p.tables e below (T307.setTop (mkF m 99 #[.val (.int p0), .val (.int p1), .val (.int p2), .val (.int sz), .val (.int kv), .val (.int (own_b (¬ ((p2 &&& (2 : Int32)) = (0 : Int32))))), .val (.ref b195), .unset] [(.int (3 : Int32)), (.int kv)])) tZ → Steps p.tables e below (s₁.setTop (entryFrame m #[(.int p0), (.int p1), (.int p2)] maxLocals)) tZ := fun tZ kZ => pre304 tZ (by
              show Steps p.tables e below (T299.setTop (mkF m 88 #[.val (.int p0), .val (.int p1), .val (.int p2), .val (.int sz), .val (.int kv), .val (.int (own_b (¬ ((p2 &&& (2 : Int32)) = (0 : Int32))))), .val (.ref b195), .unset] [(.int (2 : Int32)), (.int kv)])) _
              refine XS.icmpNo X299.here hx rfl (hb hby at_88) rfl (tlt hc305).2.2.2 ?_
              show Steps p.tables e below (T299.setTop (mkF m 91 #[.val (.int p0), .val (.int p1), .val (.int p2), .val (.int sz), .val (.int kv), .val (.int (own_b (¬ ((p2 &&& (2 : Int32)) = (0 : Int32))))), .val (.ref b195), .unset] [])) _
              refine XS.aload X299.here hx rfl (hb hby at_91) rfl rfl ?_
              show Steps p.tables e below (T299.setTop (mkF m 93 #[.val (.int p0), .val (.int p1), .val (.int p2), .val (.int sz), .val (.int kv), .val (.int (own_b (¬ ((p2 &&& (2 : Int32)) = (0 : Int32))))), .val (.ref b195), .unset] [(.ref b195)])) _
              refine st307.trans ?_
              show Steps p.tables e below (T307.setTop (mkF m 96 #[.val (.int p0), .val (.int p1), .val (.int p2), .val (.int sz), .val (.int kv), .val (.int (own_b (¬ ((p2 &&& (2 : Int32)) = (0 : Int32))))), .val (.ref b195), .unset] [])) _
              refine XS.iload X307.here hx rfl (hb hby at_96) rfl  ?_
              show Steps p.tables e below (T307.setTop (mkF m 98 #[.val (.int p0), .val (.int p1), .val (.int p2), .val (.int sz), .val (.int kv), .val (.int (own_b (¬ ((p2 &&& (2 : Int32)) = (0 : Int32))))), .val (.ref b195), .unset] [(.int kv)])) _
              refine XS.iconst X307.here hx rfl (hb hby at_98) ?_
              exact kZ)
            by_cases hc313 : (3 : Int32) < kv
            ·  -- yes
              have fa314 : Old Z n0 T307.heap := (fa306.keep K307 (allS (P := fun x => n0 ≤ x) gn_b195 (allS (P := fun x => n0 ≤ x) u197_0 (allS (P := fun x => n0 ≤ x) u197_2 all0))))
              obtain ⟨cq315, kq315, q315a, q315b, q315c⟩ := isOf hZ rfl f307_0
              obtain ⟨_, _, ⟨T315, L315, k315, n315⟩, -, X315, ⟨Lc315, hQ315, l315, y315, z315⟩, st315⟩ := X307.virtualBack hx (y := (⟨oE, "take", "()V"⟩ : MethodName)) (z := (⟨oE, "take", "()V"⟩ : MethodName)) hown (mvT hZ (ow hw 40 rfl)) (mvT hZ (ow hw 41 rfl)) (notFace_of_selects (args := #[]) (mvT hZ (ow hw 43 rfl))) (mvT hZ (ow hw 43 rfl)) (mvT hZ (ow hw 42 rfl)) (by decide) (backOf (W := 0) (rm7 l Z a0 hw [] b195 b_198 sz ((((0 : Int64) + (1 : Int64)) + (1 : Int64)) + (1 : Int64)) mn_308 wa_199 kl_200 wn_309 vn_310 T307.heap n0 Z311 f307_0 f307_1 f307_2 f307_3 f307_4 f307_5 f307_6 f307_7 f307_8 hsz (by decide) (by decide) (by first | assumption | decide) S1 fa314 gn_b195 ne202 ne203 u197_0 u197_2 u197_4) hZ (ow hw 44 rfl) (ow hw 7 rfl) (by decide) (by decide)) q315a q315c (g := (mkF m 104 #[.val (.int p0), .val (.int p1), .val (.int p2), .val (.int sz), .val (.int kv), .val (.int (own_b (¬ ((p2 &&& (2 : Int32)) = (0 : Int32))))), .val (.ref b195), .unset] [(.ref b195)])) rfl (by rw [hml]; rfl) (Steps.refl _) (argsL := []) (rest := []) (lenOf pd4 rfl) rfl (by show 2 * 0 + _ ≤ _; exact Nat.le_of_eq rfl) (hb hby at_104) (fun _ _ => ⟨rfl, rfl, (by decide : 3 + 0 ≤ _), (by decide : 8 + 0 ≤ _)⟩)
              dsimp only [Pt.U, Pt.locs, Pt.cells, Pt.slots] at X315 l315 y315 z315 st315 hQ315
              subst l315 y315 z315
              obtain ⟨mn_316, wn_317, vn_318, rfl, N315q, K315, u315_0, f315_0, f315_1, f315_2, f315_3, f315_4, f315_5, f315_6, f315_7, f315_8⟩ := hQ315
              have N315 := Fr.app N307 N315q
              have Z319 : n0 ≤ T315.heap.size := Nat.le_trans Z311 K315.1
              have pre320 : ∀ tZ, Steps p.tables e below (T315.setTop (mkF m 110 #[.val (.int p0), .val (.int p1), .val (.int p2), .val (.int sz), .val (.int kv), .val (.int (own_b (¬ ((p2 &&& (2 : Int32)) = (0 : Int32))))), .val (.ref b195), .unset] [(.int (4 : Int32)), (.int kv)])) tZ → Steps p.tables e below (s₁.setTop (entryFrame m #[(.int p0), (.int p1), (.int p2)] maxLocals)) tZ := fun tZ kZ => pre312 tZ (by
                show Steps p.tables e below (T307.setTop (mkF m 99 #[.val (.int p0), .val (.int p1), .val (.int p2), .val (.int sz), .val (.int kv), .val (.int (own_b (¬ ((p2 &&& (2 : Int32)) = (0 : Int32))))), .val (.ref b195), .unset] [(.int (3 : Int32)), (.int kv)])) _
                refine XS.icmpNo X307.here hx rfl (hb hby at_99) rfl (tlt hc313).2.2.2 ?_
                show Steps p.tables e below (T307.setTop (mkF m 102 #[.val (.int p0), .val (.int p1), .val (.int p2), .val (.int sz), .val (.int kv), .val (.int (own_b (¬ ((p2 &&& (2 : Int32)) = (0 : Int32))))), .val (.ref b195), .unset] [])) _
                refine XS.aload X307.here hx rfl (hb hby at_102) rfl rfl ?_
                show Steps p.tables e below (T307.setTop (mkF m 104 #[.val (.int p0), .val (.int p1), .val (.int p2), .val (.int sz), .val (.int kv), .val (.int (own_b (¬ ((p2 &&& (2 : Int32)) = (0 : Int32))))), .val (.ref b195), .unset] [(.ref b195)])) _
                refine st315.trans ?_
                show Steps p.tables e below (T315.setTop (mkF m 107 #[.val (.int p0), .val (.int p1), .val (.int p2), .val (.int sz), .val (.int kv), .val (.int (own_b (¬ ((p2 &&& (2 : Int32)) = (0 : Int32))))), .val (.ref b195), .unset] [])) _
                refine XS.iload X315.here hx rfl (hb hby at_107) rfl  ?_
                show Steps p.tables e below (T315.setTop (mkF m 109 #[.val (.int p0), .val (.int p1), .val (.int p2), .val (.int sz), .val (.int kv), .val (.int (own_b (¬ ((p2 &&& (2 : Int32)) = (0 : Int32))))), .val (.ref b195), .unset] [(.int kv)])) _
                refine XS.iconst X315.here hx rfl (hb hby at_109) ?_
                exact kZ)
              by_cases hc321 : (4 : Int32) < kv
              ·  -- yes
                have fa322 : Old Z n0 T315.heap := (fa314.keep K315 (allS (P := fun x => n0 ≤ x) gn_b195 (allS (P := fun x => n0 ≤ x) u197_0 (allS (P := fun x => n0 ≤ x) u197_2 all0))))
                obtain ⟨cq323, kq323, q323a, q323b, q323c⟩ := isOf hZ rfl f315_0
                obtain ⟨_, _, ⟨T323, L323, k323, n323⟩, -, X323, ⟨Lc323, hQ323, l323, y323, z323⟩, st323⟩ := X315.virtualBack hx (y := (⟨oE, "take", "()V"⟩ : MethodName)) (z := (⟨oE, "take", "()V"⟩ : MethodName)) hown (mvT hZ (ow hw 40 rfl)) (mvT hZ (ow hw 41 rfl)) (notFace_of_selects (args := #[]) (mvT hZ (ow hw 43 rfl))) (mvT hZ (ow hw 43 rfl)) (mvT hZ (ow hw 42 rfl)) (by decide) (backOf (W := 0) (rm7 l Z a0 hw [] b195 b_198 sz (((((0 : Int64) + (1 : Int64)) + (1 : Int64)) + (1 : Int64)) + (1 : Int64)) mn_316 wa_199 kl_200 wn_317 vn_318 T315.heap n0 Z319 f315_0 f315_1 f315_2 f315_3 f315_4 f315_5 f315_6 f315_7 f315_8 hsz (by decide) (by decide) (by first | assumption | decide) S1 fa322 gn_b195 ne202 ne203 u197_0 u197_2 u197_4) hZ (ow hw 44 rfl) (ow hw 7 rfl) (by decide) (by decide)) q323a q323c (g := (mkF m 115 #[.val (.int p0), .val (.int p1), .val (.int p2), .val (.int sz), .val (.int kv), .val (.int (own_b (¬ ((p2 &&& (2 : Int32)) = (0 : Int32))))), .val (.ref b195), .unset] [(.ref b195)])) rfl (by rw [hml]; rfl) (Steps.refl _) (argsL := []) (rest := []) (lenOf pd4 rfl) rfl (by show 2 * 0 + _ ≤ _; exact Nat.le_of_eq rfl) (hb hby at_115) (fun _ _ => ⟨rfl, rfl, (by decide : 3 + 0 ≤ _), (by decide : 8 + 0 ≤ _)⟩)
                dsimp only [Pt.U, Pt.locs, Pt.cells, Pt.slots] at X323 l323 y323 z323 st323 hQ323
                subst l323 y323 z323
                obtain ⟨mn_324, wn_325, vn_326, rfl, N323q, K323, u323_0, f323_0, f323_1, f323_2, f323_3, f323_4, f323_5, f323_6, f323_7, f323_8⟩ := hQ323
                have N323 := Fr.app N315 N323q
                have Z327 : n0 ≤ T323.heap.size := Nat.le_trans Z319 K323.1
                have pre328 : ∀ tZ, Steps p.tables e below (T323.setTop (mkF m 121 #[.val (.int p0), .val (.int p1), .val (.int p2), .val (.int sz), .val (.int kv), .val (.int (own_b (¬ ((p2 &&& (2 : Int32)) = (0 : Int32))))), .val (.ref b195), .unset] [(.int (5 : Int32)), (.int kv)])) tZ → Steps p.tables e below (s₁.setTop (entryFrame m #[(.int p0), (.int p1), (.int p2)] maxLocals)) tZ := fun tZ kZ => pre320 tZ (by
                  show Steps p.tables e below (T315.setTop (mkF m 110 #[.val (.int p0), .val (.int p1), .val (.int p2), .val (.int sz), .val (.int kv), .val (.int (own_b (¬ ((p2 &&& (2 : Int32)) = (0 : Int32))))), .val (.ref b195), .unset] [(.int (4 : Int32)), (.int kv)])) _
                  refine XS.icmpNo X315.here hx rfl (hb hby at_110) rfl (tlt hc321).2.2.2 ?_
                  show Steps p.tables e below (T315.setTop (mkF m 113 #[.val (.int p0), .val (.int p1), .val (.int p2), .val (.int sz), .val (.int kv), .val (.int (own_b (¬ ((p2 &&& (2 : Int32)) = (0 : Int32))))), .val (.ref b195), .unset] [])) _
                  refine XS.aload X315.here hx rfl (hb hby at_113) rfl rfl ?_
                  show Steps p.tables e below (T315.setTop (mkF m 115 #[.val (.int p0), .val (.int p1), .val (.int p2), .val (.int sz), .val (.int kv), .val (.int (own_b (¬ ((p2 &&& (2 : Int32)) = (0 : Int32))))), .val (.ref b195), .unset] [(.ref b195)])) _
                  refine st323.trans ?_
                  show Steps p.tables e below (T323.setTop (mkF m 118 #[.val (.int p0), .val (.int p1), .val (.int p2), .val (.int sz), .val (.int kv), .val (.int (own_b (¬ ((p2 &&& (2 : Int32)) = (0 : Int32))))), .val (.ref b195), .unset] [])) _
                  refine XS.iload X323.here hx rfl (hb hby at_118) rfl  ?_
                  show Steps p.tables e below (T323.setTop (mkF m 120 #[.val (.int p0), .val (.int p1), .val (.int p2), .val (.int sz), .val (.int kv), .val (.int (own_b (¬ ((p2 &&& (2 : Int32)) = (0 : Int32))))), .val (.ref b195), .unset] [(.int kv)])) _
                  refine XS.iconst X323.here hx rfl (hb hby at_120) ?_
                  exact kZ)
                by_cases hc329 : (5 : Int32) < kv
                ·  -- yes
                  have fa330 : Old Z n0 T323.heap := (fa322.keep K323 (allS (P := fun x => n0 ≤ x) gn_b195 (allS (P := fun x => n0 ≤ x) u197_0 (allS (P := fun x => n0 ≤ x) u197_2 all0))))
                  obtain ⟨cq331, kq331, q331a, q331b, q331c⟩ := isOf hZ rfl f323_0
                  obtain ⟨_, _, ⟨T331, L331, k331, n331⟩, -, X331, ⟨Lc331, hQ331, l331, y331, z331⟩, st331⟩ := X323.virtualBack hx (y := (⟨oE, "take", "()V"⟩ : MethodName)) (z := (⟨oE, "take", "()V"⟩ : MethodName)) hown (mvT hZ (ow hw 40 rfl)) (mvT hZ (ow hw 41 rfl)) (notFace_of_selects (args := #[]) (mvT hZ (ow hw 43 rfl))) (mvT hZ (ow hw 43 rfl)) (mvT hZ (ow hw 42 rfl)) (by decide) (backOf (W := 0) (rm7 l Z a0 hw [] b195 b_198 sz ((((((0 : Int64) + (1 : Int64)) + (1 : Int64)) + (1 : Int64)) + (1 : Int64)) + (1 : Int64)) mn_324 wa_199 kl_200 wn_325 vn_326 T323.heap n0 Z327 f323_0 f323_1 f323_2 f323_3 f323_4 f323_5 f323_6 f323_7 f323_8 hsz (by decide) (by decide) (by first | assumption | decide) S1 fa330 gn_b195 ne202 ne203 u197_0 u197_2 u197_4) hZ (ow hw 44 rfl) (ow hw 7 rfl) (by decide) (by decide)) q331a q331c (g := (mkF m 126 #[.val (.int p0), .val (.int p1), .val (.int p2), .val (.int sz), .val (.int kv), .val (.int (own_b (¬ ((p2 &&& (2 : Int32)) = (0 : Int32))))), .val (.ref b195), .unset] [(.ref b195)])) rfl (by rw [hml]; rfl) (Steps.refl _) (argsL := []) (rest := []) (lenOf pd4 rfl) rfl (by show 2 * 0 + _ ≤ _; exact Nat.le_of_eq rfl) (hb hby at_126) (fun _ _ => ⟨rfl, rfl, (by decide : 3 + 0 ≤ _), (by decide : 8 + 0 ≤ _)⟩)
                  dsimp only [Pt.U, Pt.locs, Pt.cells, Pt.slots] at X331 l331 y331 z331 st331 hQ331
                  subst l331 y331 z331
                  obtain ⟨mn_332, wn_333, vn_334, rfl, N331q, K331, u331_0, f331_0, f331_1, f331_2, f331_3, f331_4, f331_5, f331_6, f331_7, f331_8⟩ := hQ331
                  have N331 := Fr.app N323 N331q
                  have Z335 : n0 ≤ T331.heap.size := Nat.le_trans Z327 K331.1
                  have pre336 : ∀ tZ, Steps p.tables e below (T331.setTop (mkF m 133 #[.val (.int p0), .val (.int p1), .val (.int p2), .val (.int sz), .val (.int kv), .val (.int (own_b (¬ ((p2 &&& (2 : Int32)) = (0 : Int32))))), .val (.ref b195), .unset] [(.int (6 : Int32)), (.int kv)])) tZ → Steps p.tables e below (s₁.setTop (entryFrame m #[(.int p0), (.int p1), (.int p2)] maxLocals)) tZ := fun tZ kZ => pre328 tZ (by
                    show Steps p.tables e below (T323.setTop (mkF m 121 #[.val (.int p0), .val (.int p1), .val (.int p2), .val (.int sz), .val (.int kv), .val (.int (own_b (¬ ((p2 &&& (2 : Int32)) = (0 : Int32))))), .val (.ref b195), .unset] [(.int (5 : Int32)), (.int kv)])) _
                    refine XS.icmpNo X323.here hx rfl (hb hby at_121) rfl (tlt hc329).2.2.2 ?_
                    show Steps p.tables e below (T323.setTop (mkF m 124 #[.val (.int p0), .val (.int p1), .val (.int p2), .val (.int sz), .val (.int kv), .val (.int (own_b (¬ ((p2 &&& (2 : Int32)) = (0 : Int32))))), .val (.ref b195), .unset] [])) _
                    refine XS.aload X323.here hx rfl (hb hby at_124) rfl rfl ?_
                    show Steps p.tables e below (T323.setTop (mkF m 126 #[.val (.int p0), .val (.int p1), .val (.int p2), .val (.int sz), .val (.int kv), .val (.int (own_b (¬ ((p2 &&& (2 : Int32)) = (0 : Int32))))), .val (.ref b195), .unset] [(.ref b195)])) _
                    refine st331.trans ?_
                    show Steps p.tables e below (T331.setTop (mkF m 129 #[.val (.int p0), .val (.int p1), .val (.int p2), .val (.int sz), .val (.int kv), .val (.int (own_b (¬ ((p2 &&& (2 : Int32)) = (0 : Int32))))), .val (.ref b195), .unset] [])) _
                    refine XS.iload X331.here hx rfl (hb hby at_129) rfl  ?_
                    show Steps p.tables e below (T331.setTop (mkF m 131 #[.val (.int p0), .val (.int p1), .val (.int p2), .val (.int sz), .val (.int kv), .val (.int (own_b (¬ ((p2 &&& (2 : Int32)) = (0 : Int32))))), .val (.ref b195), .unset] [(.int kv)])) _
                    refine XS.bipush X331.here hx rfl (hb hby at_131) ?_
                    exact kZ)
                  by_cases hc337 : (6 : Int32) < kv
                  ·  -- yes
                    have fa338 : Old Z n0 T331.heap := (fa330.keep K331 (allS (P := fun x => n0 ≤ x) gn_b195 (allS (P := fun x => n0 ≤ x) u197_0 (allS (P := fun x => n0 ≤ x) u197_2 all0))))
                    obtain ⟨cq339, kq339, q339a, q339b, q339c⟩ := isOf hZ rfl f331_0
                    obtain ⟨_, _, ⟨T339, L339, k339, n339⟩, -, X339, ⟨Lc339, hQ339, l339, y339, z339⟩, st339⟩ := X331.virtualBack hx (y := (⟨oE, "take", "()V"⟩ : MethodName)) (z := (⟨oE, "take", "()V"⟩ : MethodName)) hown (mvT hZ (ow hw 40 rfl)) (mvT hZ (ow hw 41 rfl)) (notFace_of_selects (args := #[]) (mvT hZ (ow hw 43 rfl))) (mvT hZ (ow hw 43 rfl)) (mvT hZ (ow hw 42 rfl)) (by decide) (backOf (W := 0) (rm7 l Z a0 hw [] b195 b_198 sz (((((((0 : Int64) + (1 : Int64)) + (1 : Int64)) + (1 : Int64)) + (1 : Int64)) + (1 : Int64)) + (1 : Int64)) mn_332 wa_199 kl_200 wn_333 vn_334 T331.heap n0 Z335 f331_0 f331_1 f331_2 f331_3 f331_4 f331_5 f331_6 f331_7 f331_8 hsz (by decide) (by decide) (by first | assumption | decide) S1 fa338 gn_b195 ne202 ne203 u197_0 u197_2 u197_4) hZ (ow hw 44 rfl) (ow hw 7 rfl) (by decide) (by decide)) q339a q339c (g := (mkF m 138 #[.val (.int p0), .val (.int p1), .val (.int p2), .val (.int sz), .val (.int kv), .val (.int (own_b (¬ ((p2 &&& (2 : Int32)) = (0 : Int32))))), .val (.ref b195), .unset] [(.ref b195)])) rfl (by rw [hml]; rfl) (Steps.refl _) (argsL := []) (rest := []) (lenOf pd4 rfl) rfl (by show 2 * 0 + _ ≤ _; exact Nat.le_of_eq rfl) (hb hby at_138) (fun _ _ => ⟨rfl, rfl, (by decide : 3 + 0 ≤ _), (by decide : 8 + 0 ≤ _)⟩)
                    dsimp only [Pt.U, Pt.locs, Pt.cells, Pt.slots] at X339 l339 y339 z339 st339 hQ339
                    subst l339 y339 z339
                    obtain ⟨mn_340, wn_341, vn_342, rfl, N339q, K339, u339_0, f339_0, f339_1, f339_2, f339_3, f339_4, f339_5, f339_6, f339_7, f339_8⟩ := hQ339
                    have N339 := Fr.app N331 N339q
                    have Z343 : n0 ≤ T339.heap.size := Nat.le_trans Z335 K339.1
                    have pre344 : ∀ tZ, Steps p.tables e below (T339.setTop (mkF m 144 #[.val (.int p0), .val (.int p1), .val (.int p2), .val (.int sz), .val (.int kv), .val (.int (own_b (¬ ((p2 &&& (2 : Int32)) = (0 : Int32))))), .val (.ref b195), .unset] [(.int sz), (.int kv)])) tZ → Steps p.tables e below (s₁.setTop (entryFrame m #[(.int p0), (.int p1), (.int p2)] maxLocals)) tZ := fun tZ kZ => pre336 tZ (by
                      show Steps p.tables e below (T331.setTop (mkF m 133 #[.val (.int p0), .val (.int p1), .val (.int p2), .val (.int sz), .val (.int kv), .val (.int (own_b (¬ ((p2 &&& (2 : Int32)) = (0 : Int32))))), .val (.ref b195), .unset] [(.int (6 : Int32)), (.int kv)])) _
                      refine XS.icmpNo X331.here hx rfl (hb hby at_133) rfl (tlt hc337).2.2.2 ?_
                      show Steps p.tables e below (T331.setTop (mkF m 136 #[.val (.int p0), .val (.int p1), .val (.int p2), .val (.int sz), .val (.int kv), .val (.int (own_b (¬ ((p2 &&& (2 : Int32)) = (0 : Int32))))), .val (.ref b195), .unset] [])) _
                      refine XS.aload X331.here hx rfl (hb hby at_136) rfl rfl ?_
                      show Steps p.tables e below (T331.setTop (mkF m 138 #[.val (.int p0), .val (.int p1), .val (.int p2), .val (.int sz), .val (.int kv), .val (.int (own_b (¬ ((p2 &&& (2 : Int32)) = (0 : Int32))))), .val (.ref b195), .unset] [(.ref b195)])) _
                      refine st339.trans ?_
                      show Steps p.tables e below (T339.setTop (mkF m 141 #[.val (.int p0), .val (.int p1), .val (.int p2), .val (.int sz), .val (.int kv), .val (.int (own_b (¬ ((p2 &&& (2 : Int32)) = (0 : Int32))))), .val (.ref b195), .unset] [])) _
                      refine XS.iload X339.here hx rfl (hb hby at_141) rfl  ?_
                      show Steps p.tables e below (T339.setTop (mkF m 143 #[.val (.int p0), .val (.int p1), .val (.int p2), .val (.int sz), .val (.int kv), .val (.int (own_b (¬ ((p2 &&& (2 : Int32)) = (0 : Int32))))), .val (.ref b195), .unset] [(.int kv)])) _
                      refine XS.iloadN X339.here hx rfl (hb hby at_143) rfl  ?_
                      exact kZ)
                    have pre346 : ∀ tZ, Steps p.tables e below (T339.setTop (mkF m 152 #[.val (.int p0), .val (.int p1), .val (.int p2), .val (.int sz), .val (.int kv), .val (.int (own_b (¬ ((p2 &&& (2 : Int32)) = (0 : Int32))))), .val (.ref b195), .unset] [(.int (own_b (¬ (kv < sz))))])) tZ → Steps p.tables e below (s₁.setTop (entryFrame m #[(.int p0), (.int p1), (.int p2)] maxLocals)) tZ := fun tZ kZ => pre344 tZ (by
                      by_cases hc345 : kv < sz
                      ·  -- yes
                        show Steps p.tables e below (T339.setTop (mkF m 144 #[.val (.int p0), .val (.int p1), .val (.int p2), .val (.int sz), .val (.int kv), .val (.int (own_b (¬ ((p2 &&& (2 : Int32)) = (0 : Int32))))), .val (.ref b195), .unset] [(.int sz), (.int kv)])) _
                        refine XS.icmpYes X339.here hx rfl (pc0 := 144) (pc' := 151) rfl (hb hby at_144) rfl (tlt hc345).1 (by decide) (by decide) ?_
                        show Steps p.tables e below (T339.setTop (mkF m 151 #[.val (.int p0), .val (.int p1), .val (.int p2), .val (.int sz), .val (.int kv), .val (.int (own_b (¬ ((p2 &&& (2 : Int32)) = (0 : Int32))))), .val (.ref b195), .unset] [])) _
                        refine XS.iconst X339.here hx rfl (hb hby at_151) ?_
                        have ekZ : (own_b (¬ (kv < sz))) = (0 : Int32) := by first | (simp only [own_b, eq_true hc345, and_true, true_and, and_false, false_and, or_true, true_or, or_false, false_or, not_true_eq_false, not_false_eq_true, if_true, if_false, reduceIte]; done) | (simp [own_b, hc345]; done)
                        rw [ekZ] at kZ
                        exact kZ
                      ·  -- no
                        show Steps p.tables e below (T339.setTop (mkF m 144 #[.val (.int p0), .val (.int p1), .val (.int p2), .val (.int sz), .val (.int kv), .val (.int (own_b (¬ ((p2 &&& (2 : Int32)) = (0 : Int32))))), .val (.ref b195), .unset] [(.int sz), (.int kv)])) _
                        refine XS.icmpNo X339.here hx rfl (hb hby at_144) rfl (flt hc345).1 ?_
                        show Steps p.tables e below (T339.setTop (mkF m 147 #[.val (.int p0), .val (.int p1), .val (.int p2), .val (.int sz), .val (.int kv), .val (.int (own_b (¬ ((p2 &&& (2 : Int32)) = (0 : Int32))))), .val (.ref b195), .unset] [])) _
                        refine XS.iconst X339.here hx rfl (hb hby at_147) ?_
                        show Steps p.tables e below (T339.setTop (mkF m 148 #[.val (.int p0), .val (.int p1), .val (.int p2), .val (.int sz), .val (.int kv), .val (.int (own_b (¬ ((p2 &&& (2 : Int32)) = (0 : Int32))))), .val (.ref b195), .unset] [(.int (1 : Int32))])) _
                        refine XS.goto X339.here hx rfl (pc0 := 148) (pc' := 152) rfl (hb hby at_148) (by decide) (by decide) ?_
                        have ekZ : (own_b (¬ (kv < sz))) = (1 : Int32) := by first | (simp only [own_b, eq_false hc345, and_true, true_and, and_false, false_and, or_true, true_or, or_false, false_or, not_true_eq_false, not_false_eq_true, if_true, if_false, reduceIte]; done) | (simp [own_b, hc345]; done)
                        rw [ekZ] at kZ
                        exact kZ)
                    obtain ⟨cq347, kq347, q347a, q347b, q347c⟩ := isOf hZ rfl f339_0
                    obtain ⟨_, _, ⟨T347, L347, k347, n347⟩, -, X347, ⟨Lc347, hQ347, l347, y347, z347⟩, st347⟩ := X339.virtualBack hx (y := (⟨oE, "full", "()Z"⟩ : MethodName)) (z := (⟨oE, "full", "()Z"⟩ : MethodName)) hown (mvT hZ (ow hw 91 rfl)) (mvT hZ (ow hw 92 rfl)) (notFace_of_selects (args := #[]) (mvT hZ (ow hw 94 rfl))) (mvT hZ (ow hw 94 rfl)) (mvT hZ (ow hw 93 rfl)) (by decide) (backOf (W := 0) (rm16 l Z a0 hw [] b195 sz ((((((((0 : Int64) + (1 : Int64)) + (1 : Int64)) + (1 : Int64)) + (1 : Int64)) + (1 : Int64)) + (1 : Int64)) + (1 : Int64)) T339.heap n0 Z343 f339_2 f339_3) hZ (ow hw 95 rfl) (ow hw 7 rfl) (by decide) (by decide)) q347a q347c (g := (mkF m 156 #[.val (.int p0), .val (.int p1), .val (.int p2), .val (.int sz), .val (.int kv), .val (.int (own_b (¬ ((p2 &&& (2 : Int32)) = (0 : Int32))))), .val (.ref b195), .val (.int (own_b (¬ (kv < sz))))] [(.ref b195)])) rfl (by rw [hml]; rfl) (Steps.refl _) (argsL := []) (rest := []) (lenOf pd8 rfl) rfl (by show 2 * 0 + _ ≤ _; exact Nat.le_of_eq rfl) (hb hby at_156) (fun _ _ => ⟨rfl, rfl, (by decide : 3 + 0 ≤ _), (by decide : 8 + 0 ≤ _)⟩)
                    dsimp only [Pt.U, Pt.locs, Pt.cells, Pt.slots] at X347 l347 y347 z347 st347 hQ347
                    subst l347 y347 z347
                    obtain ⟨rfl, N347q, e347⟩ := hQ347
                    have N347 := Fr.app N339 N347q
                    obtain ⟨fsZ, hrZ, hrun, hended, hW, hsame⟩ := X347.leave (v := some (.int (1 : Int32))) (fun h => by rw [Bd.returns] at h; cases h)
                    refine ⟨_, _, pre346 _ ?_, hrun, hended, _, _, rfl, ?_, ⟨_, rfl⟩, hW, hsame.mono (by decide) (by decide)⟩
                    · show Steps p.tables e below (T339.setTop (mkF m 152 #[.val (.int p0), .val (.int p1), .val (.int p2), .val (.int sz), .val (.int kv), .val (.int (own_b (¬ ((p2 &&& (2 : Int32)) = (0 : Int32))))), .val (.ref b195), .unset] [(.int (own_b (¬ (kv < sz))))])) _
                      refine XS.istore X339.here hx rfl (hb hby at_152) rfl (l' := #[.val (.int p0), .val (.int p1), .val (.int p2), .val (.int sz), .val (.int kv), .val (.int (own_b (¬ ((p2 &&& (2 : Int32)) = (0 : Int32))))), .val (.ref b195), .val (.int (own_b (¬ (kv < sz))))]) rfl ?_
                      show Steps p.tables e below (T339.setTop (mkF m 154 #[.val (.int p0), .val (.int p1), .val (.int p2), .val (.int sz), .val (.int kv), .val (.int (own_b (¬ ((p2 &&& (2 : Int32)) = (0 : Int32))))), .val (.ref b195), .val (.int (own_b (¬ (kv < sz))))] [])) _
                      refine XS.aload X339.here hx rfl (hb hby at_154) rfl rfl ?_
                      show Steps p.tables e below (T339.setTop (mkF m 156 #[.val (.int p0), .val (.int p1), .val (.int p2), .val (.int sz), .val (.int kv), .val (.int (own_b (¬ ((p2 &&& (2 : Int32)) = (0 : Int32))))), .val (.ref b195), .val (.int (own_b (¬ (kv < sz))))] [(.ref b195)])) _
                      refine st347.trans ?_
                      show Steps p.tables e below (T347.setTop (mkF m 159 #[.val (.int p0), .val (.int p1), .val (.int p2), .val (.int sz), .val (.int kv), .val (.int (own_b (¬ ((p2 &&& (2 : Int32)) = (0 : Int32))))), .val (.ref b195), .val (.int (own_b (¬ (kv < sz))))] [(.int (own_b (¬ (((((((((0 : Int64) + (1 : Int64)) + (1 : Int64)) + (1 : Int64)) + (1 : Int64)) + (1 : Int64)) + (1 : Int64)) + (1 : Int64)) < (sz.toInt64)))))])) _
                      refine XS.iload X347.here hx rfl (hb hby at_159) rfl  ?_
                      show Steps p.tables e below (T347.setTop (mkF m 161 #[.val (.int p0), .val (.int p1), .val (.int p2), .val (.int sz), .val (.int kv), .val (.int (own_b (¬ ((p2 &&& (2 : Int32)) = (0 : Int32))))), .val (.ref b195), .val (.int (own_b (¬ (kv < sz))))] [(.int (own_b (¬ (kv < sz)))), (.int (own_b (¬ (((((((((0 : Int64) + (1 : Int64)) + (1 : Int64)) + (1 : Int64)) + (1 : Int64)) + (1 : Int64)) + (1 : Int64)) + (1 : Int64)) < (sz.toInt64)))))])) _
                      refine XS.icmpNo X347.here hx rfl (hb hby at_161) rfl (teq (own_fin 7 hsz (by decide) (own_eqk 7 (hc337) (own_k7 hkv) (by decide) (by decide)))).2 ?_
                      show Steps p.tables e below (T347.setTop (mkF m 164 #[.val (.int p0), .val (.int p1), .val (.int p2), .val (.int sz), .val (.int kv), .val (.int (own_b (¬ ((p2 &&& (2 : Int32)) = (0 : Int32))))), .val (.ref b195), .val (.int (own_b (¬ (kv < sz))))] [])) _
                      refine XS.iconst X347.here hx rfl (hb hby at_164) ?_
                      show Steps p.tables e below (T347.setTop (mkF m 165 #[.val (.int p0), .val (.int p1), .val (.int p2), .val (.int sz), .val (.int kv), .val (.int (own_b (¬ ((p2 &&& (2 : Int32)) = (0 : Int32))))), .val (.ref b195), .val (.int (own_b (¬ (kv < sz))))] [(.int (1 : Int32))])) _
                      refine XS.goto X347.here hx rfl (pc0 := 165) (pc' := 169) rfl (hb hby at_165) (by decide) (by decide) ?_
                      show Steps p.tables e below (T347.setTop (mkF m 169 #[.val (.int p0), .val (.int p1), .val (.int p2), .val (.int sz), .val (.int kv), .val (.int (own_b (¬ ((p2 &&& (2 : Int32)) = (0 : Int32))))), .val (.ref b195), .val (.int (own_b (¬ (kv < sz))))] [(.int (1 : Int32))])) _
                      exact retN X347 hx (t := .boolean) Bd.returns (by simp) (hb hby at_169) hrZ
                    · show Q0 Z p0 p1 p2 h0 n0 _ T347.heap _
                      rw [e347]
                      exact ⟨rfl, N347⟩
                  ·  -- no
                    have pre348 : ∀ tZ, Steps p.tables e below (T331.setTop (mkF m 144 #[.val (.int p0), .val (.int p1), .val (.int p2), .val (.int sz), .val (.int kv), .val (.int (own_b (¬ ((p2 &&& (2 : Int32)) = (0 : Int32))))), .val (.ref b195), .unset] [(.int sz), (.int kv)])) tZ → Steps p.tables e below (s₁.setTop (entryFrame m #[(.int p0), (.int p1), (.int p2)] maxLocals)) tZ := fun tZ kZ => pre336 tZ (by
                      show Steps p.tables e below (T331.setTop (mkF m 133 #[.val (.int p0), .val (.int p1), .val (.int p2), .val (.int sz), .val (.int kv), .val (.int (own_b (¬ ((p2 &&& (2 : Int32)) = (0 : Int32))))), .val (.ref b195), .unset] [(.int (6 : Int32)), (.int kv)])) _
                      refine XS.icmpYes X331.here hx rfl (pc0 := 133) (pc' := 141) rfl (hb hby at_133) rfl (flt hc337).2.2.2 (by decide) (by decide) ?_
                      show Steps p.tables e below (T331.setTop (mkF m 141 #[.val (.int p0), .val (.int p1), .val (.int p2), .val (.int sz), .val (.int kv), .val (.int (own_b (¬ ((p2 &&& (2 : Int32)) = (0 : Int32))))), .val (.ref b195), .unset] [])) _
                      refine XS.iload X331.here hx rfl (hb hby at_141) rfl  ?_
                      show Steps p.tables e below (T331.setTop (mkF m 143 #[.val (.int p0), .val (.int p1), .val (.int p2), .val (.int sz), .val (.int kv), .val (.int (own_b (¬ ((p2 &&& (2 : Int32)) = (0 : Int32))))), .val (.ref b195), .unset] [(.int kv)])) _
                      refine XS.iloadN X331.here hx rfl (hb hby at_143) rfl  ?_
                      exact kZ)
                    have pre350 : ∀ tZ, Steps p.tables e below (T331.setTop (mkF m 152 #[.val (.int p0), .val (.int p1), .val (.int p2), .val (.int sz), .val (.int kv), .val (.int (own_b (¬ ((p2 &&& (2 : Int32)) = (0 : Int32))))), .val (.ref b195), .unset] [(.int (own_b (¬ (kv < sz))))])) tZ → Steps p.tables e below (s₁.setTop (entryFrame m #[(.int p0), (.int p1), (.int p2)] maxLocals)) tZ := fun tZ kZ => pre348 tZ (by
                      by_cases hc349 : kv < sz
                      ·  -- yes
                        show Steps p.tables e below (T331.setTop (mkF m 144 #[.val (.int p0), .val (.int p1), .val (.int p2), .val (.int sz), .val (.int kv), .val (.int (own_b (¬ ((p2 &&& (2 : Int32)) = (0 : Int32))))), .val (.ref b195), .unset] [(.int sz), (.int kv)])) _
                        refine XS.icmpYes X331.here hx rfl (pc0 := 144) (pc' := 151) rfl (hb hby at_144) rfl (tlt hc349).1 (by decide) (by decide) ?_
                        show Steps p.tables e below (T331.setTop (mkF m 151 #[.val (.int p0), .val (.int p1), .val (.int p2), .val (.int sz), .val (.int kv), .val (.int (own_b (¬ ((p2 &&& (2 : Int32)) = (0 : Int32))))), .val (.ref b195), .unset] [])) _
                        refine XS.iconst X331.here hx rfl (hb hby at_151) ?_
                        have ekZ : (own_b (¬ (kv < sz))) = (0 : Int32) := by first | (simp only [own_b, eq_true hc349, and_true, true_and, and_false, false_and, or_true, true_or, or_false, false_or, not_true_eq_false, not_false_eq_true, if_true, if_false, reduceIte]; done) | (simp [own_b, hc349]; done)
                        rw [ekZ] at kZ
                        exact kZ
                      ·  -- no
                        show Steps p.tables e below (T331.setTop (mkF m 144 #[.val (.int p0), .val (.int p1), .val (.int p2), .val (.int sz), .val (.int kv), .val (.int (own_b (¬ ((p2 &&& (2 : Int32)) = (0 : Int32))))), .val (.ref b195), .unset] [(.int sz), (.int kv)])) _
                        refine XS.icmpNo X331.here hx rfl (hb hby at_144) rfl (flt hc349).1 ?_
                        show Steps p.tables e below (T331.setTop (mkF m 147 #[.val (.int p0), .val (.int p1), .val (.int p2), .val (.int sz), .val (.int kv), .val (.int (own_b (¬ ((p2 &&& (2 : Int32)) = (0 : Int32))))), .val (.ref b195), .unset] [])) _
                        refine XS.iconst X331.here hx rfl (hb hby at_147) ?_
                        show Steps p.tables e below (T331.setTop (mkF m 148 #[.val (.int p0), .val (.int p1), .val (.int p2), .val (.int sz), .val (.int kv), .val (.int (own_b (¬ ((p2 &&& (2 : Int32)) = (0 : Int32))))), .val (.ref b195), .unset] [(.int (1 : Int32))])) _
                        refine XS.goto X331.here hx rfl (pc0 := 148) (pc' := 152) rfl (hb hby at_148) (by decide) (by decide) ?_
                        have ekZ : (own_b (¬ (kv < sz))) = (1 : Int32) := by first | (simp only [own_b, eq_false hc349, and_true, true_and, and_false, false_and, or_true, true_or, or_false, false_or, not_true_eq_false, not_false_eq_true, if_true, if_false, reduceIte]; done) | (simp [own_b, hc349]; done)
                        rw [ekZ] at kZ
                        exact kZ)
                    obtain ⟨cq351, kq351, q351a, q351b, q351c⟩ := isOf hZ rfl f331_0
                    obtain ⟨_, _, ⟨T351, L351, k351, n351⟩, -, X351, ⟨Lc351, hQ351, l351, y351, z351⟩, st351⟩ := X331.virtualBack hx (y := (⟨oE, "full", "()Z"⟩ : MethodName)) (z := (⟨oE, "full", "()Z"⟩ : MethodName)) hown (mvT hZ (ow hw 91 rfl)) (mvT hZ (ow hw 92 rfl)) (notFace_of_selects (args := #[]) (mvT hZ (ow hw 94 rfl))) (mvT hZ (ow hw 94 rfl)) (mvT hZ (ow hw 93 rfl)) (by decide) (backOf (W := 0) (rm16 l Z a0 hw [] b195 sz (((((((0 : Int64) + (1 : Int64)) + (1 : Int64)) + (1 : Int64)) + (1 : Int64)) + (1 : Int64)) + (1 : Int64)) T331.heap n0 Z335 f331_2 f331_3) hZ (ow hw 95 rfl) (ow hw 7 rfl) (by decide) (by decide)) q351a q351c (g := (mkF m 156 #[.val (.int p0), .val (.int p1), .val (.int p2), .val (.int sz), .val (.int kv), .val (.int (own_b (¬ ((p2 &&& (2 : Int32)) = (0 : Int32))))), .val (.ref b195), .val (.int (own_b (¬ (kv < sz))))] [(.ref b195)])) rfl (by rw [hml]; rfl) (Steps.refl _) (argsL := []) (rest := []) (lenOf pd8 rfl) rfl (by show 2 * 0 + _ ≤ _; exact Nat.le_of_eq rfl) (hb hby at_156) (fun _ _ => ⟨rfl, rfl, (by decide : 3 + 0 ≤ _), (by decide : 8 + 0 ≤ _)⟩)
                    dsimp only [Pt.U, Pt.locs, Pt.cells, Pt.slots] at X351 l351 y351 z351 st351 hQ351
                    subst l351 y351 z351
                    obtain ⟨rfl, N351q, e351⟩ := hQ351
                    have N351 := Fr.app N331 N351q
                    obtain ⟨fsZ, hrZ, hrun, hended, hW, hsame⟩ := X351.leave (v := some (.int (1 : Int32))) (fun h => by rw [Bd.returns] at h; cases h)
                    refine ⟨_, _, pre350 _ ?_, hrun, hended, _, _, rfl, ?_, ⟨_, rfl⟩, hW, hsame.mono (by decide) (by decide)⟩
                    · show Steps p.tables e below (T331.setTop (mkF m 152 #[.val (.int p0), .val (.int p1), .val (.int p2), .val (.int sz), .val (.int kv), .val (.int (own_b (¬ ((p2 &&& (2 : Int32)) = (0 : Int32))))), .val (.ref b195), .unset] [(.int (own_b (¬ (kv < sz))))])) _
                      refine XS.istore X331.here hx rfl (hb hby at_152) rfl (l' := #[.val (.int p0), .val (.int p1), .val (.int p2), .val (.int sz), .val (.int kv), .val (.int (own_b (¬ ((p2 &&& (2 : Int32)) = (0 : Int32))))), .val (.ref b195), .val (.int (own_b (¬ (kv < sz))))]) rfl ?_
                      show Steps p.tables e below (T331.setTop (mkF m 154 #[.val (.int p0), .val (.int p1), .val (.int p2), .val (.int sz), .val (.int kv), .val (.int (own_b (¬ ((p2 &&& (2 : Int32)) = (0 : Int32))))), .val (.ref b195), .val (.int (own_b (¬ (kv < sz))))] [])) _
                      refine XS.aload X331.here hx rfl (hb hby at_154) rfl rfl ?_
                      show Steps p.tables e below (T331.setTop (mkF m 156 #[.val (.int p0), .val (.int p1), .val (.int p2), .val (.int sz), .val (.int kv), .val (.int (own_b (¬ ((p2 &&& (2 : Int32)) = (0 : Int32))))), .val (.ref b195), .val (.int (own_b (¬ (kv < sz))))] [(.ref b195)])) _
                      refine st351.trans ?_
                      show Steps p.tables e below (T351.setTop (mkF m 159 #[.val (.int p0), .val (.int p1), .val (.int p2), .val (.int sz), .val (.int kv), .val (.int (own_b (¬ ((p2 &&& (2 : Int32)) = (0 : Int32))))), .val (.ref b195), .val (.int (own_b (¬ (kv < sz))))] [(.int (own_b (¬ ((((((((0 : Int64) + (1 : Int64)) + (1 : Int64)) + (1 : Int64)) + (1 : Int64)) + (1 : Int64)) + (1 : Int64)) < (sz.toInt64)))))])) _
                      refine XS.iload X351.here hx rfl (hb hby at_159) rfl  ?_
                      show Steps p.tables e below (T351.setTop (mkF m 161 #[.val (.int p0), .val (.int p1), .val (.int p2), .val (.int sz), .val (.int kv), .val (.int (own_b (¬ ((p2 &&& (2 : Int32)) = (0 : Int32))))), .val (.ref b195), .val (.int (own_b (¬ (kv < sz))))] [(.int (own_b (¬ (kv < sz)))), (.int (own_b (¬ ((((((((0 : Int64) + (1 : Int64)) + (1 : Int64)) + (1 : Int64)) + (1 : Int64)) + (1 : Int64)) + (1 : Int64)) < (sz.toInt64)))))])) _
                      refine XS.icmpNo X351.here hx rfl (hb hby at_161) rfl (teq (own_fin 6 hsz (by decide) (own_eqk 6 (hc329) hc337 (by decide) (by decide)))).2 ?_
                      show Steps p.tables e below (T351.setTop (mkF m 164 #[.val (.int p0), .val (.int p1), .val (.int p2), .val (.int sz), .val (.int kv), .val (.int (own_b (¬ ((p2 &&& (2 : Int32)) = (0 : Int32))))), .val (.ref b195), .val (.int (own_b (¬ (kv < sz))))] [])) _
                      refine XS.iconst X351.here hx rfl (hb hby at_164) ?_
                      show Steps p.tables e below (T351.setTop (mkF m 165 #[.val (.int p0), .val (.int p1), .val (.int p2), .val (.int sz), .val (.int kv), .val (.int (own_b (¬ ((p2 &&& (2 : Int32)) = (0 : Int32))))), .val (.ref b195), .val (.int (own_b (¬ (kv < sz))))] [(.int (1 : Int32))])) _
                      refine XS.goto X351.here hx rfl (pc0 := 165) (pc' := 169) rfl (hb hby at_165) (by decide) (by decide) ?_
                      show Steps p.tables e below (T351.setTop (mkF m 169 #[.val (.int p0), .val (.int p1), .val (.int p2), .val (.int sz), .val (.int kv), .val (.int (own_b (¬ ((p2 &&& (2 : Int32)) = (0 : Int32))))), .val (.ref b195), .val (.int (own_b (¬ (kv < sz))))] [(.int (1 : Int32))])) _
                      exact retN X351 hx (t := .boolean) Bd.returns (by simp) (hb hby at_169) hrZ
                    · show Q0 Z p0 p1 p2 h0 n0 _ T351.heap _
                      rw [e351]
                      exact ⟨rfl, N351⟩
                ·  -- no
                  have pre352 : ∀ tZ, Steps p.tables e below (T323.setTop (mkF m 144 #[.val (.int p0), .val (.int p1), .val (.int p2), .val (.int sz), .val (.int kv), .val (.int (own_b (¬ ((p2 &&& (2 : Int32)) = (0 : Int32))))), .val (.ref b195), .unset] [(.int sz), (.int kv)])) tZ → Steps p.tables e below (s₁.setTop (entryFrame m #[(.int p0), (.int p1), (.int p2)] maxLocals)) tZ := fun tZ kZ => pre328 tZ (by
                    show Steps p.tables e below (T323.setTop (mkF m 121 #[.val (.int p0), .val (.int p1), .val (.int p2), .val (.int sz), .val (.int kv), .val (.int (own_b (¬ ((p2 &&& (2 : Int32)) = (0 : Int32))))), .val (.ref b195), .unset] [(.int (5 : Int32)), (.int kv)])) _
                    refine XS.icmpYes X323.here hx rfl (pc0 := 121) (pc' := 129) rfl (hb hby at_121) rfl (flt hc329).2.2.2 (by decide) (by decide) ?_
                    show Steps p.tables e below (T323.setTop (mkF m 129 #[.val (.int p0), .val (.int p1), .val (.int p2), .val (.int sz), .val (.int kv), .val (.int (own_b (¬ ((p2 &&& (2 : Int32)) = (0 : Int32))))), .val (.ref b195), .unset] [])) _
                    refine XS.iload X323.here hx rfl (hb hby at_129) rfl  ?_
                    show Steps p.tables e below (T323.setTop (mkF m 131 #[.val (.int p0), .val (.int p1), .val (.int p2), .val (.int sz), .val (.int kv), .val (.int (own_b (¬ ((p2 &&& (2 : Int32)) = (0 : Int32))))), .val (.ref b195), .unset] [(.int kv)])) _
                    refine XS.bipush X323.here hx rfl (hb hby at_131) ?_
                    show Steps p.tables e below (T323.setTop (mkF m 133 #[.val (.int p0), .val (.int p1), .val (.int p2), .val (.int sz), .val (.int kv), .val (.int (own_b (¬ ((p2 &&& (2 : Int32)) = (0 : Int32))))), .val (.ref b195), .unset] [(.int (6 : Int32)), (.int kv)])) _
                    refine XS.icmpYes X323.here hx rfl (pc0 := 133) (pc' := 141) rfl (hb hby at_133) rfl (flt (own_no hc329 (by decide))).2.2.2 (by decide) (by decide) ?_
                    show Steps p.tables e below (T323.setTop (mkF m 141 #[.val (.int p0), .val (.int p1), .val (.int p2), .val (.int sz), .val (.int kv), .val (.int (own_b (¬ ((p2 &&& (2 : Int32)) = (0 : Int32))))), .val (.ref b195), .unset] [])) _
                    refine XS.iload X323.here hx rfl (hb hby at_141) rfl  ?_
                    show Steps p.tables e below (T323.setTop (mkF m 143 #[.val (.int p0), .val (.int p1), .val (.int p2), .val (.int sz), .val (.int kv), .val (.int (own_b (¬ ((p2 &&& (2 : Int32)) = (0 : Int32))))), .val (.ref b195), .unset] [(.int kv)])) _
                    refine XS.iloadN X323.here hx rfl (hb hby at_143) rfl  ?_
                    exact kZ)
                  have pre354 : ∀ tZ, Steps p.tables e below (T323.setTop (mkF m 152 #[.val (.int p0), .val (.int p1), .val (.int p2), .val (.int sz), .val (.int kv), .val (.int (own_b (¬ ((p2 &&& (2 : Int32)) = (0 : Int32))))), .val (.ref b195), .unset] [(.int (own_b (¬ (kv < sz))))])) tZ → Steps p.tables e below (s₁.setTop (entryFrame m #[(.int p0), (.int p1), (.int p2)] maxLocals)) tZ := fun tZ kZ => pre352 tZ (by
                    by_cases hc353 : kv < sz
                    ·  -- yes
                      show Steps p.tables e below (T323.setTop (mkF m 144 #[.val (.int p0), .val (.int p1), .val (.int p2), .val (.int sz), .val (.int kv), .val (.int (own_b (¬ ((p2 &&& (2 : Int32)) = (0 : Int32))))), .val (.ref b195), .unset] [(.int sz), (.int kv)])) _
                      refine XS.icmpYes X323.here hx rfl (pc0 := 144) (pc' := 151) rfl (hb hby at_144) rfl (tlt hc353).1 (by decide) (by decide) ?_
                      show Steps p.tables e below (T323.setTop (mkF m 151 #[.val (.int p0), .val (.int p1), .val (.int p2), .val (.int sz), .val (.int kv), .val (.int (own_b (¬ ((p2 &&& (2 : Int32)) = (0 : Int32))))), .val (.ref b195), .unset] [])) _
                      refine XS.iconst X323.here hx rfl (hb hby at_151) ?_
                      have ekZ : (own_b (¬ (kv < sz))) = (0 : Int32) := by first | (simp only [own_b, eq_true hc353, and_true, true_and, and_false, false_and, or_true, true_or, or_false, false_or, not_true_eq_false, not_false_eq_true, if_true, if_false, reduceIte]; done) | (simp [own_b, hc353]; done)
                      rw [ekZ] at kZ
                      exact kZ
                    ·  -- no
                      show Steps p.tables e below (T323.setTop (mkF m 144 #[.val (.int p0), .val (.int p1), .val (.int p2), .val (.int sz), .val (.int kv), .val (.int (own_b (¬ ((p2 &&& (2 : Int32)) = (0 : Int32))))), .val (.ref b195), .unset] [(.int sz), (.int kv)])) _
                      refine XS.icmpNo X323.here hx rfl (hb hby at_144) rfl (flt hc353).1 ?_
                      show Steps p.tables e below (T323.setTop (mkF m 147 #[.val (.int p0), .val (.int p1), .val (.int p2), .val (.int sz), .val (.int kv), .val (.int (own_b (¬ ((p2 &&& (2 : Int32)) = (0 : Int32))))), .val (.ref b195), .unset] [])) _
                      refine XS.iconst X323.here hx rfl (hb hby at_147) ?_
                      show Steps p.tables e below (T323.setTop (mkF m 148 #[.val (.int p0), .val (.int p1), .val (.int p2), .val (.int sz), .val (.int kv), .val (.int (own_b (¬ ((p2 &&& (2 : Int32)) = (0 : Int32))))), .val (.ref b195), .unset] [(.int (1 : Int32))])) _
                      refine XS.goto X323.here hx rfl (pc0 := 148) (pc' := 152) rfl (hb hby at_148) (by decide) (by decide) ?_
                      have ekZ : (own_b (¬ (kv < sz))) = (1 : Int32) := by first | (simp only [own_b, eq_false hc353, and_true, true_and, and_false, false_and, or_true, true_or, or_false, false_or, not_true_eq_false, not_false_eq_true, if_true, if_false, reduceIte]; done) | (simp [own_b, hc353]; done)
                      rw [ekZ] at kZ
                      exact kZ)
                  obtain ⟨cq355, kq355, q355a, q355b, q355c⟩ := isOf hZ rfl f323_0
                  obtain ⟨_, _, ⟨T355, L355, k355, n355⟩, -, X355, ⟨Lc355, hQ355, l355, y355, z355⟩, st355⟩ := X323.virtualBack hx (y := (⟨oE, "full", "()Z"⟩ : MethodName)) (z := (⟨oE, "full", "()Z"⟩ : MethodName)) hown (mvT hZ (ow hw 91 rfl)) (mvT hZ (ow hw 92 rfl)) (notFace_of_selects (args := #[]) (mvT hZ (ow hw 94 rfl))) (mvT hZ (ow hw 94 rfl)) (mvT hZ (ow hw 93 rfl)) (by decide) (backOf (W := 0) (rm16 l Z a0 hw [] b195 sz ((((((0 : Int64) + (1 : Int64)) + (1 : Int64)) + (1 : Int64)) + (1 : Int64)) + (1 : Int64)) T323.heap n0 Z327 f323_2 f323_3) hZ (ow hw 95 rfl) (ow hw 7 rfl) (by decide) (by decide)) q355a q355c (g := (mkF m 156 #[.val (.int p0), .val (.int p1), .val (.int p2), .val (.int sz), .val (.int kv), .val (.int (own_b (¬ ((p2 &&& (2 : Int32)) = (0 : Int32))))), .val (.ref b195), .val (.int (own_b (¬ (kv < sz))))] [(.ref b195)])) rfl (by rw [hml]; rfl) (Steps.refl _) (argsL := []) (rest := []) (lenOf pd8 rfl) rfl (by show 2 * 0 + _ ≤ _; exact Nat.le_of_eq rfl) (hb hby at_156) (fun _ _ => ⟨rfl, rfl, (by decide : 3 + 0 ≤ _), (by decide : 8 + 0 ≤ _)⟩)
                  dsimp only [Pt.U, Pt.locs, Pt.cells, Pt.slots] at X355 l355 y355 z355 st355 hQ355
                  subst l355 y355 z355
                  obtain ⟨rfl, N355q, e355⟩ := hQ355
                  have N355 := Fr.app N323 N355q
                  obtain ⟨fsZ, hrZ, hrun, hended, hW, hsame⟩ := X355.leave (v := some (.int (1 : Int32))) (fun h => by rw [Bd.returns] at h; cases h)
                  refine ⟨_, _, pre354 _ ?_, hrun, hended, _, _, rfl, ?_, ⟨_, rfl⟩, hW, hsame.mono (by decide) (by decide)⟩
                  · show Steps p.tables e below (T323.setTop (mkF m 152 #[.val (.int p0), .val (.int p1), .val (.int p2), .val (.int sz), .val (.int kv), .val (.int (own_b (¬ ((p2 &&& (2 : Int32)) = (0 : Int32))))), .val (.ref b195), .unset] [(.int (own_b (¬ (kv < sz))))])) _
                    refine XS.istore X323.here hx rfl (hb hby at_152) rfl (l' := #[.val (.int p0), .val (.int p1), .val (.int p2), .val (.int sz), .val (.int kv), .val (.int (own_b (¬ ((p2 &&& (2 : Int32)) = (0 : Int32))))), .val (.ref b195), .val (.int (own_b (¬ (kv < sz))))]) rfl ?_
                    show Steps p.tables e below (T323.setTop (mkF m 154 #[.val (.int p0), .val (.int p1), .val (.int p2), .val (.int sz), .val (.int kv), .val (.int (own_b (¬ ((p2 &&& (2 : Int32)) = (0 : Int32))))), .val (.ref b195), .val (.int (own_b (¬ (kv < sz))))] [])) _
                    refine XS.aload X323.here hx rfl (hb hby at_154) rfl rfl ?_
                    show Steps p.tables e below (T323.setTop (mkF m 156 #[.val (.int p0), .val (.int p1), .val (.int p2), .val (.int sz), .val (.int kv), .val (.int (own_b (¬ ((p2 &&& (2 : Int32)) = (0 : Int32))))), .val (.ref b195), .val (.int (own_b (¬ (kv < sz))))] [(.ref b195)])) _
                    refine st355.trans ?_
                    show Steps p.tables e below (T355.setTop (mkF m 159 #[.val (.int p0), .val (.int p1), .val (.int p2), .val (.int sz), .val (.int kv), .val (.int (own_b (¬ ((p2 &&& (2 : Int32)) = (0 : Int32))))), .val (.ref b195), .val (.int (own_b (¬ (kv < sz))))] [(.int (own_b (¬ (((((((0 : Int64) + (1 : Int64)) + (1 : Int64)) + (1 : Int64)) + (1 : Int64)) + (1 : Int64)) < (sz.toInt64)))))])) _
                    refine XS.iload X355.here hx rfl (hb hby at_159) rfl  ?_
                    show Steps p.tables e below (T355.setTop (mkF m 161 #[.val (.int p0), .val (.int p1), .val (.int p2), .val (.int sz), .val (.int kv), .val (.int (own_b (¬ ((p2 &&& (2 : Int32)) = (0 : Int32))))), .val (.ref b195), .val (.int (own_b (¬ (kv < sz))))] [(.int (own_b (¬ (kv < sz)))), (.int (own_b (¬ (((((((0 : Int64) + (1 : Int64)) + (1 : Int64)) + (1 : Int64)) + (1 : Int64)) + (1 : Int64)) < (sz.toInt64)))))])) _
                    refine XS.icmpNo X355.here hx rfl (hb hby at_161) rfl (teq (own_fin 5 hsz (by decide) (own_eqk 5 (hc321) hc329 (by decide) (by decide)))).2 ?_
                    show Steps p.tables e below (T355.setTop (mkF m 164 #[.val (.int p0), .val (.int p1), .val (.int p2), .val (.int sz), .val (.int kv), .val (.int (own_b (¬ ((p2 &&& (2 : Int32)) = (0 : Int32))))), .val (.ref b195), .val (.int (own_b (¬ (kv < sz))))] [])) _
                    refine XS.iconst X355.here hx rfl (hb hby at_164) ?_
                    show Steps p.tables e below (T355.setTop (mkF m 165 #[.val (.int p0), .val (.int p1), .val (.int p2), .val (.int sz), .val (.int kv), .val (.int (own_b (¬ ((p2 &&& (2 : Int32)) = (0 : Int32))))), .val (.ref b195), .val (.int (own_b (¬ (kv < sz))))] [(.int (1 : Int32))])) _
                    refine XS.goto X355.here hx rfl (pc0 := 165) (pc' := 169) rfl (hb hby at_165) (by decide) (by decide) ?_
                    show Steps p.tables e below (T355.setTop (mkF m 169 #[.val (.int p0), .val (.int p1), .val (.int p2), .val (.int sz), .val (.int kv), .val (.int (own_b (¬ ((p2 &&& (2 : Int32)) = (0 : Int32))))), .val (.ref b195), .val (.int (own_b (¬ (kv < sz))))] [(.int (1 : Int32))])) _
                    exact retN X355 hx (t := .boolean) Bd.returns (by simp) (hb hby at_169) hrZ
                  · show Q0 Z p0 p1 p2 h0 n0 _ T355.heap _
                    rw [e355]
                    exact ⟨rfl, N355⟩
              ·  -- no
                have pre356 : ∀ tZ, Steps p.tables e below (T315.setTop (mkF m 144 #[.val (.int p0), .val (.int p1), .val (.int p2), .val (.int sz), .val (.int kv), .val (.int (own_b (¬ ((p2 &&& (2 : Int32)) = (0 : Int32))))), .val (.ref b195), .unset] [(.int sz), (.int kv)])) tZ → Steps p.tables e below (s₁.setTop (entryFrame m #[(.int p0), (.int p1), (.int p2)] maxLocals)) tZ := fun tZ kZ => pre320 tZ (by
                  show Steps p.tables e below (T315.setTop (mkF m 110 #[.val (.int p0), .val (.int p1), .val (.int p2), .val (.int sz), .val (.int kv), .val (.int (own_b (¬ ((p2 &&& (2 : Int32)) = (0 : Int32))))), .val (.ref b195), .unset] [(.int (4 : Int32)), (.int kv)])) _
                  refine XS.icmpYes X315.here hx rfl (pc0 := 110) (pc' := 118) rfl (hb hby at_110) rfl (flt hc321).2.2.2 (by decide) (by decide) ?_
                  show Steps p.tables e below (T315.setTop (mkF m 118 #[.val (.int p0), .val (.int p1), .val (.int p2), .val (.int sz), .val (.int kv), .val (.int (own_b (¬ ((p2 &&& (2 : Int32)) = (0 : Int32))))), .val (.ref b195), .unset] [])) _
                  refine XS.iload X315.here hx rfl (hb hby at_118) rfl  ?_
                  show Steps p.tables e below (T315.setTop (mkF m 120 #[.val (.int p0), .val (.int p1), .val (.int p2), .val (.int sz), .val (.int kv), .val (.int (own_b (¬ ((p2 &&& (2 : Int32)) = (0 : Int32))))), .val (.ref b195), .unset] [(.int kv)])) _
                  refine XS.iconst X315.here hx rfl (hb hby at_120) ?_
                  show Steps p.tables e below (T315.setTop (mkF m 121 #[.val (.int p0), .val (.int p1), .val (.int p2), .val (.int sz), .val (.int kv), .val (.int (own_b (¬ ((p2 &&& (2 : Int32)) = (0 : Int32))))), .val (.ref b195), .unset] [(.int (5 : Int32)), (.int kv)])) _
                  refine XS.icmpYes X315.here hx rfl (pc0 := 121) (pc' := 129) rfl (hb hby at_121) rfl (flt (own_no hc321 (by decide))).2.2.2 (by decide) (by decide) ?_
                  show Steps p.tables e below (T315.setTop (mkF m 129 #[.val (.int p0), .val (.int p1), .val (.int p2), .val (.int sz), .val (.int kv), .val (.int (own_b (¬ ((p2 &&& (2 : Int32)) = (0 : Int32))))), .val (.ref b195), .unset] [])) _
                  refine XS.iload X315.here hx rfl (hb hby at_129) rfl  ?_
                  show Steps p.tables e below (T315.setTop (mkF m 131 #[.val (.int p0), .val (.int p1), .val (.int p2), .val (.int sz), .val (.int kv), .val (.int (own_b (¬ ((p2 &&& (2 : Int32)) = (0 : Int32))))), .val (.ref b195), .unset] [(.int kv)])) _
                  refine XS.bipush X315.here hx rfl (hb hby at_131) ?_
                  show Steps p.tables e below (T315.setTop (mkF m 133 #[.val (.int p0), .val (.int p1), .val (.int p2), .val (.int sz), .val (.int kv), .val (.int (own_b (¬ ((p2 &&& (2 : Int32)) = (0 : Int32))))), .val (.ref b195), .unset] [(.int (6 : Int32)), (.int kv)])) _
                  refine XS.icmpYes X315.here hx rfl (pc0 := 133) (pc' := 141) rfl (hb hby at_133) rfl (flt (own_no hc321 (by decide))).2.2.2 (by decide) (by decide) ?_
                  show Steps p.tables e below (T315.setTop (mkF m 141 #[.val (.int p0), .val (.int p1), .val (.int p2), .val (.int sz), .val (.int kv), .val (.int (own_b (¬ ((p2 &&& (2 : Int32)) = (0 : Int32))))), .val (.ref b195), .unset] [])) _
                  refine XS.iload X315.here hx rfl (hb hby at_141) rfl  ?_
                  show Steps p.tables e below (T315.setTop (mkF m 143 #[.val (.int p0), .val (.int p1), .val (.int p2), .val (.int sz), .val (.int kv), .val (.int (own_b (¬ ((p2 &&& (2 : Int32)) = (0 : Int32))))), .val (.ref b195), .unset] [(.int kv)])) _
                  refine XS.iloadN X315.here hx rfl (hb hby at_143) rfl  ?_
                  exact kZ)
                have pre358 : ∀ tZ, Steps p.tables e below (T315.setTop (mkF m 152 #[.val (.int p0), .val (.int p1), .val (.int p2), .val (.int sz), .val (.int kv), .val (.int (own_b (¬ ((p2 &&& (2 : Int32)) = (0 : Int32))))), .val (.ref b195), .unset] [(.int (own_b (¬ (kv < sz))))])) tZ → Steps p.tables e below (s₁.setTop (entryFrame m #[(.int p0), (.int p1), (.int p2)] maxLocals)) tZ := fun tZ kZ => pre356 tZ (by
                  by_cases hc357 : kv < sz
                  ·  -- yes
                    show Steps p.tables e below (T315.setTop (mkF m 144 #[.val (.int p0), .val (.int p1), .val (.int p2), .val (.int sz), .val (.int kv), .val (.int (own_b (¬ ((p2 &&& (2 : Int32)) = (0 : Int32))))), .val (.ref b195), .unset] [(.int sz), (.int kv)])) _
                    refine XS.icmpYes X315.here hx rfl (pc0 := 144) (pc' := 151) rfl (hb hby at_144) rfl (tlt hc357).1 (by decide) (by decide) ?_
                    show Steps p.tables e below (T315.setTop (mkF m 151 #[.val (.int p0), .val (.int p1), .val (.int p2), .val (.int sz), .val (.int kv), .val (.int (own_b (¬ ((p2 &&& (2 : Int32)) = (0 : Int32))))), .val (.ref b195), .unset] [])) _
                    refine XS.iconst X315.here hx rfl (hb hby at_151) ?_
                    have ekZ : (own_b (¬ (kv < sz))) = (0 : Int32) := by first | (simp only [own_b, eq_true hc357, and_true, true_and, and_false, false_and, or_true, true_or, or_false, false_or, not_true_eq_false, not_false_eq_true, if_true, if_false, reduceIte]; done) | (simp [own_b, hc357]; done)
                    rw [ekZ] at kZ
                    exact kZ
                  ·  -- no
                    show Steps p.tables e below (T315.setTop (mkF m 144 #[.val (.int p0), .val (.int p1), .val (.int p2), .val (.int sz), .val (.int kv), .val (.int (own_b (¬ ((p2 &&& (2 : Int32)) = (0 : Int32))))), .val (.ref b195), .unset] [(.int sz), (.int kv)])) _
                    refine XS.icmpNo X315.here hx rfl (hb hby at_144) rfl (flt hc357).1 ?_
                    show Steps p.tables e below (T315.setTop (mkF m 147 #[.val (.int p0), .val (.int p1), .val (.int p2), .val (.int sz), .val (.int kv), .val (.int (own_b (¬ ((p2 &&& (2 : Int32)) = (0 : Int32))))), .val (.ref b195), .unset] [])) _
                    refine XS.iconst X315.here hx rfl (hb hby at_147) ?_
                    show Steps p.tables e below (T315.setTop (mkF m 148 #[.val (.int p0), .val (.int p1), .val (.int p2), .val (.int sz), .val (.int kv), .val (.int (own_b (¬ ((p2 &&& (2 : Int32)) = (0 : Int32))))), .val (.ref b195), .unset] [(.int (1 : Int32))])) _
                    refine XS.goto X315.here hx rfl (pc0 := 148) (pc' := 152) rfl (hb hby at_148) (by decide) (by decide) ?_
                    have ekZ : (own_b (¬ (kv < sz))) = (1 : Int32) := by first | (simp only [own_b, eq_false hc357, and_true, true_and, and_false, false_and, or_true, true_or, or_false, false_or, not_true_eq_false, not_false_eq_true, if_true, if_false, reduceIte]; done) | (simp [own_b, hc357]; done)
                    rw [ekZ] at kZ
                    exact kZ)
                obtain ⟨cq359, kq359, q359a, q359b, q359c⟩ := isOf hZ rfl f315_0
                obtain ⟨_, _, ⟨T359, L359, k359, n359⟩, -, X359, ⟨Lc359, hQ359, l359, y359, z359⟩, st359⟩ := X315.virtualBack hx (y := (⟨oE, "full", "()Z"⟩ : MethodName)) (z := (⟨oE, "full", "()Z"⟩ : MethodName)) hown (mvT hZ (ow hw 91 rfl)) (mvT hZ (ow hw 92 rfl)) (notFace_of_selects (args := #[]) (mvT hZ (ow hw 94 rfl))) (mvT hZ (ow hw 94 rfl)) (mvT hZ (ow hw 93 rfl)) (by decide) (backOf (W := 0) (rm16 l Z a0 hw [] b195 sz (((((0 : Int64) + (1 : Int64)) + (1 : Int64)) + (1 : Int64)) + (1 : Int64)) T315.heap n0 Z319 f315_2 f315_3) hZ (ow hw 95 rfl) (ow hw 7 rfl) (by decide) (by decide)) q359a q359c (g := (mkF m 156 #[.val (.int p0), .val (.int p1), .val (.int p2), .val (.int sz), .val (.int kv), .val (.int (own_b (¬ ((p2 &&& (2 : Int32)) = (0 : Int32))))), .val (.ref b195), .val (.int (own_b (¬ (kv < sz))))] [(.ref b195)])) rfl (by rw [hml]; rfl) (Steps.refl _) (argsL := []) (rest := []) (lenOf pd8 rfl) rfl (by show 2 * 0 + _ ≤ _; exact Nat.le_of_eq rfl) (hb hby at_156) (fun _ _ => ⟨rfl, rfl, (by decide : 3 + 0 ≤ _), (by decide : 8 + 0 ≤ _)⟩)
                dsimp only [Pt.U, Pt.locs, Pt.cells, Pt.slots] at X359 l359 y359 z359 st359 hQ359
                subst l359 y359 z359
                obtain ⟨rfl, N359q, e359⟩ := hQ359
                have N359 := Fr.app N315 N359q
                obtain ⟨fsZ, hrZ, hrun, hended, hW, hsame⟩ := X359.leave (v := some (.int (1 : Int32))) (fun h => by rw [Bd.returns] at h; cases h)
                refine ⟨_, _, pre358 _ ?_, hrun, hended, _, _, rfl, ?_, ⟨_, rfl⟩, hW, hsame.mono (by decide) (by decide)⟩
                · show Steps p.tables e below (T315.setTop (mkF m 152 #[.val (.int p0), .val (.int p1), .val (.int p2), .val (.int sz), .val (.int kv), .val (.int (own_b (¬ ((p2 &&& (2 : Int32)) = (0 : Int32))))), .val (.ref b195), .unset] [(.int (own_b (¬ (kv < sz))))])) _
                  refine XS.istore X315.here hx rfl (hb hby at_152) rfl (l' := #[.val (.int p0), .val (.int p1), .val (.int p2), .val (.int sz), .val (.int kv), .val (.int (own_b (¬ ((p2 &&& (2 : Int32)) = (0 : Int32))))), .val (.ref b195), .val (.int (own_b (¬ (kv < sz))))]) rfl ?_
                  show Steps p.tables e below (T315.setTop (mkF m 154 #[.val (.int p0), .val (.int p1), .val (.int p2), .val (.int sz), .val (.int kv), .val (.int (own_b (¬ ((p2 &&& (2 : Int32)) = (0 : Int32))))), .val (.ref b195), .val (.int (own_b (¬ (kv < sz))))] [])) _
                  refine XS.aload X315.here hx rfl (hb hby at_154) rfl rfl ?_
                  show Steps p.tables e below (T315.setTop (mkF m 156 #[.val (.int p0), .val (.int p1), .val (.int p2), .val (.int sz), .val (.int kv), .val (.int (own_b (¬ ((p2 &&& (2 : Int32)) = (0 : Int32))))), .val (.ref b195), .val (.int (own_b (¬ (kv < sz))))] [(.ref b195)])) _
                  refine st359.trans ?_
                  show Steps p.tables e below (T359.setTop (mkF m 159 #[.val (.int p0), .val (.int p1), .val (.int p2), .val (.int sz), .val (.int kv), .val (.int (own_b (¬ ((p2 &&& (2 : Int32)) = (0 : Int32))))), .val (.ref b195), .val (.int (own_b (¬ (kv < sz))))] [(.int (own_b (¬ ((((((0 : Int64) + (1 : Int64)) + (1 : Int64)) + (1 : Int64)) + (1 : Int64)) < (sz.toInt64)))))])) _
                  refine XS.iload X359.here hx rfl (hb hby at_159) rfl  ?_
                  show Steps p.tables e below (T359.setTop (mkF m 161 #[.val (.int p0), .val (.int p1), .val (.int p2), .val (.int sz), .val (.int kv), .val (.int (own_b (¬ ((p2 &&& (2 : Int32)) = (0 : Int32))))), .val (.ref b195), .val (.int (own_b (¬ (kv < sz))))] [(.int (own_b (¬ (kv < sz)))), (.int (own_b (¬ ((((((0 : Int64) + (1 : Int64)) + (1 : Int64)) + (1 : Int64)) + (1 : Int64)) < (sz.toInt64)))))])) _
                  refine XS.icmpNo X359.here hx rfl (hb hby at_161) rfl (teq (own_fin 4 hsz (by decide) (own_eqk 4 (hc313) hc321 (by decide) (by decide)))).2 ?_
                  show Steps p.tables e below (T359.setTop (mkF m 164 #[.val (.int p0), .val (.int p1), .val (.int p2), .val (.int sz), .val (.int kv), .val (.int (own_b (¬ ((p2 &&& (2 : Int32)) = (0 : Int32))))), .val (.ref b195), .val (.int (own_b (¬ (kv < sz))))] [])) _
                  refine XS.iconst X359.here hx rfl (hb hby at_164) ?_
                  show Steps p.tables e below (T359.setTop (mkF m 165 #[.val (.int p0), .val (.int p1), .val (.int p2), .val (.int sz), .val (.int kv), .val (.int (own_b (¬ ((p2 &&& (2 : Int32)) = (0 : Int32))))), .val (.ref b195), .val (.int (own_b (¬ (kv < sz))))] [(.int (1 : Int32))])) _
                  refine XS.goto X359.here hx rfl (pc0 := 165) (pc' := 169) rfl (hb hby at_165) (by decide) (by decide) ?_
                  show Steps p.tables e below (T359.setTop (mkF m 169 #[.val (.int p0), .val (.int p1), .val (.int p2), .val (.int sz), .val (.int kv), .val (.int (own_b (¬ ((p2 &&& (2 : Int32)) = (0 : Int32))))), .val (.ref b195), .val (.int (own_b (¬ (kv < sz))))] [(.int (1 : Int32))])) _
                  exact retN X359 hx (t := .boolean) Bd.returns (by simp) (hb hby at_169) hrZ
                · show Q0 Z p0 p1 p2 h0 n0 _ T359.heap _
                  rw [e359]
                  exact ⟨rfl, N359⟩
            ·  -- no
              have pre360 : ∀ tZ, Steps p.tables e below (T307.setTop (mkF m 144 #[.val (.int p0), .val (.int p1), .val (.int p2), .val (.int sz), .val (.int kv), .val (.int (own_b (¬ ((p2 &&& (2 : Int32)) = (0 : Int32))))), .val (.ref b195), .unset] [(.int sz), (.int kv)])) tZ → Steps p.tables e below (s₁.setTop (entryFrame m #[(.int p0), (.int p1), (.int p2)] maxLocals)) tZ := fun tZ kZ => pre312 tZ (by
                show Steps p.tables e below (T307.setTop (mkF m 99 #[.val (.int p0), .val (.int p1), .val (.int p2), .val (.int sz), .val (.int kv), .val (.int (own_b (¬ ((p2 &&& (2 : Int32)) = (0 : Int32))))), .val (.ref b195), .unset] [(.int (3 : Int32)), (.int kv)])) _
                refine XS.icmpYes X307.here hx rfl (pc0 := 99) (pc' := 107) rfl (hb hby at_99) rfl (flt hc313).2.2.2 (by decide) (by decide) ?_
                show Steps p.tables e below (T307.setTop (mkF m 107 #[.val (.int p0), .val (.int p1), .val (.int p2), .val (.int sz), .val (.int kv), .val (.int (own_b (¬ ((p2 &&& (2 : Int32)) = (0 : Int32))))), .val (.ref b195), .unset] [])) _
                refine XS.iload X307.here hx rfl (hb hby at_107) rfl  ?_
                show Steps p.tables e below (T307.setTop (mkF m 109 #[.val (.int p0), .val (.int p1), .val (.int p2), .val (.int sz), .val (.int kv), .val (.int (own_b (¬ ((p2 &&& (2 : Int32)) = (0 : Int32))))), .val (.ref b195), .unset] [(.int kv)])) _
                refine XS.iconst X307.here hx rfl (hb hby at_109) ?_
                show Steps p.tables e below (T307.setTop (mkF m 110 #[.val (.int p0), .val (.int p1), .val (.int p2), .val (.int sz), .val (.int kv), .val (.int (own_b (¬ ((p2 &&& (2 : Int32)) = (0 : Int32))))), .val (.ref b195), .unset] [(.int (4 : Int32)), (.int kv)])) _
                refine XS.icmpYes X307.here hx rfl (pc0 := 110) (pc' := 118) rfl (hb hby at_110) rfl (flt (own_no hc313 (by decide))).2.2.2 (by decide) (by decide) ?_
                show Steps p.tables e below (T307.setTop (mkF m 118 #[.val (.int p0), .val (.int p1), .val (.int p2), .val (.int sz), .val (.int kv), .val (.int (own_b (¬ ((p2 &&& (2 : Int32)) = (0 : Int32))))), .val (.ref b195), .unset] [])) _
                refine XS.iload X307.here hx rfl (hb hby at_118) rfl  ?_
                show Steps p.tables e below (T307.setTop (mkF m 120 #[.val (.int p0), .val (.int p1), .val (.int p2), .val (.int sz), .val (.int kv), .val (.int (own_b (¬ ((p2 &&& (2 : Int32)) = (0 : Int32))))), .val (.ref b195), .unset] [(.int kv)])) _
                refine XS.iconst X307.here hx rfl (hb hby at_120) ?_
                show Steps p.tables e below (T307.setTop (mkF m 121 #[.val (.int p0), .val (.int p1), .val (.int p2), .val (.int sz), .val (.int kv), .val (.int (own_b (¬ ((p2 &&& (2 : Int32)) = (0 : Int32))))), .val (.ref b195), .unset] [(.int (5 : Int32)), (.int kv)])) _
                refine XS.icmpYes X307.here hx rfl (pc0 := 121) (pc' := 129) rfl (hb hby at_121) rfl (flt (own_no hc313 (by decide))).2.2.2 (by decide) (by decide) ?_
                show Steps p.tables e below (T307.setTop (mkF m 129 #[.val (.int p0), .val (.int p1), .val (.int p2), .val (.int sz), .val (.int kv), .val (.int (own_b (¬ ((p2 &&& (2 : Int32)) = (0 : Int32))))), .val (.ref b195), .unset] [])) _
                refine XS.iload X307.here hx rfl (hb hby at_129) rfl  ?_
                show Steps p.tables e below (T307.setTop (mkF m 131 #[.val (.int p0), .val (.int p1), .val (.int p2), .val (.int sz), .val (.int kv), .val (.int (own_b (¬ ((p2 &&& (2 : Int32)) = (0 : Int32))))), .val (.ref b195), .unset] [(.int kv)])) _
                refine XS.bipush X307.here hx rfl (hb hby at_131) ?_
                show Steps p.tables e below (T307.setTop (mkF m 133 #[.val (.int p0), .val (.int p1), .val (.int p2), .val (.int sz), .val (.int kv), .val (.int (own_b (¬ ((p2 &&& (2 : Int32)) = (0 : Int32))))), .val (.ref b195), .unset] [(.int (6 : Int32)), (.int kv)])) _
                refine XS.icmpYes X307.here hx rfl (pc0 := 133) (pc' := 141) rfl (hb hby at_133) rfl (flt (own_no hc313 (by decide))).2.2.2 (by decide) (by decide) ?_
                show Steps p.tables e below (T307.setTop (mkF m 141 #[.val (.int p0), .val (.int p1), .val (.int p2), .val (.int sz), .val (.int kv), .val (.int (own_b (¬ ((p2 &&& (2 : Int32)) = (0 : Int32))))), .val (.ref b195), .unset] [])) _
                refine XS.iload X307.here hx rfl (hb hby at_141) rfl  ?_
                show Steps p.tables e below (T307.setTop (mkF m 143 #[.val (.int p0), .val (.int p1), .val (.int p2), .val (.int sz), .val (.int kv), .val (.int (own_b (¬ ((p2 &&& (2 : Int32)) = (0 : Int32))))), .val (.ref b195), .unset] [(.int kv)])) _
                refine XS.iloadN X307.here hx rfl (hb hby at_143) rfl  ?_
                exact kZ)
              have pre362 : ∀ tZ, Steps p.tables e below (T307.setTop (mkF m 152 #[.val (.int p0), .val (.int p1), .val (.int p2), .val (.int sz), .val (.int kv), .val (.int (own_b (¬ ((p2 &&& (2 : Int32)) = (0 : Int32))))), .val (.ref b195), .unset] [(.int (own_b (¬ (kv < sz))))])) tZ → Steps p.tables e below (s₁.setTop (entryFrame m #[(.int p0), (.int p1), (.int p2)] maxLocals)) tZ := fun tZ kZ => pre360 tZ (by
                by_cases hc361 : kv < sz
                ·  -- yes
                  show Steps p.tables e below (T307.setTop (mkF m 144 #[.val (.int p0), .val (.int p1), .val (.int p2), .val (.int sz), .val (.int kv), .val (.int (own_b (¬ ((p2 &&& (2 : Int32)) = (0 : Int32))))), .val (.ref b195), .unset] [(.int sz), (.int kv)])) _
                  refine XS.icmpYes X307.here hx rfl (pc0 := 144) (pc' := 151) rfl (hb hby at_144) rfl (tlt hc361).1 (by decide) (by decide) ?_
                  show Steps p.tables e below (T307.setTop (mkF m 151 #[.val (.int p0), .val (.int p1), .val (.int p2), .val (.int sz), .val (.int kv), .val (.int (own_b (¬ ((p2 &&& (2 : Int32)) = (0 : Int32))))), .val (.ref b195), .unset] [])) _
                  refine XS.iconst X307.here hx rfl (hb hby at_151) ?_
                  have ekZ : (own_b (¬ (kv < sz))) = (0 : Int32) := by first | (simp only [own_b, eq_true hc361, and_true, true_and, and_false, false_and, or_true, true_or, or_false, false_or, not_true_eq_false, not_false_eq_true, if_true, if_false, reduceIte]; done) | (simp [own_b, hc361]; done)
                  rw [ekZ] at kZ
                  exact kZ
                ·  -- no
                  show Steps p.tables e below (T307.setTop (mkF m 144 #[.val (.int p0), .val (.int p1), .val (.int p2), .val (.int sz), .val (.int kv), .val (.int (own_b (¬ ((p2 &&& (2 : Int32)) = (0 : Int32))))), .val (.ref b195), .unset] [(.int sz), (.int kv)])) _
                  refine XS.icmpNo X307.here hx rfl (hb hby at_144) rfl (flt hc361).1 ?_
                  show Steps p.tables e below (T307.setTop (mkF m 147 #[.val (.int p0), .val (.int p1), .val (.int p2), .val (.int sz), .val (.int kv), .val (.int (own_b (¬ ((p2 &&& (2 : Int32)) = (0 : Int32))))), .val (.ref b195), .unset] [])) _
                  refine XS.iconst X307.here hx rfl (hb hby at_147) ?_
                  show Steps p.tables e below (T307.setTop (mkF m 148 #[.val (.int p0), .val (.int p1), .val (.int p2), .val (.int sz), .val (.int kv), .val (.int (own_b (¬ ((p2 &&& (2 : Int32)) = (0 : Int32))))), .val (.ref b195), .unset] [(.int (1 : Int32))])) _
                  refine XS.goto X307.here hx rfl (pc0 := 148) (pc' := 152) rfl (hb hby at_148) (by decide) (by decide) ?_
                  have ekZ : (own_b (¬ (kv < sz))) = (1 : Int32) := by first | (simp only [own_b, eq_false hc361, and_true, true_and, and_false, false_and, or_true, true_or, or_false, false_or, not_true_eq_false, not_false_eq_true, if_true, if_false, reduceIte]; done) | (simp [own_b, hc361]; done)
                  rw [ekZ] at kZ
                  exact kZ)
              obtain ⟨cq363, kq363, q363a, q363b, q363c⟩ := isOf hZ rfl f307_0
              obtain ⟨_, _, ⟨T363, L363, k363, n363⟩, -, X363, ⟨Lc363, hQ363, l363, y363, z363⟩, st363⟩ := X307.virtualBack hx (y := (⟨oE, "full", "()Z"⟩ : MethodName)) (z := (⟨oE, "full", "()Z"⟩ : MethodName)) hown (mvT hZ (ow hw 91 rfl)) (mvT hZ (ow hw 92 rfl)) (notFace_of_selects (args := #[]) (mvT hZ (ow hw 94 rfl))) (mvT hZ (ow hw 94 rfl)) (mvT hZ (ow hw 93 rfl)) (by decide) (backOf (W := 0) (rm16 l Z a0 hw [] b195 sz ((((0 : Int64) + (1 : Int64)) + (1 : Int64)) + (1 : Int64)) T307.heap n0 Z311 f307_2 f307_3) hZ (ow hw 95 rfl) (ow hw 7 rfl) (by decide) (by decide)) q363a q363c (g := (mkF m 156 #[.val (.int p0), .val (.int p1), .val (.int p2), .val (.int sz), .val (.int kv), .val (.int (own_b (¬ ((p2 &&& (2 : Int32)) = (0 : Int32))))), .val (.ref b195), .val (.int (own_b (¬ (kv < sz))))] [(.ref b195)])) rfl (by rw [hml]; rfl) (Steps.refl _) (argsL := []) (rest := []) (lenOf pd8 rfl) rfl (by show 2 * 0 + _ ≤ _; exact Nat.le_of_eq rfl) (hb hby at_156) (fun _ _ => ⟨rfl, rfl, (by decide : 3 + 0 ≤ _), (by decide : 8 + 0 ≤ _)⟩)
              dsimp only [Pt.U, Pt.locs, Pt.cells, Pt.slots] at X363 l363 y363 z363 st363 hQ363
              subst l363 y363 z363
              obtain ⟨rfl, N363q, e363⟩ := hQ363
              have N363 := Fr.app N307 N363q
              obtain ⟨fsZ, hrZ, hrun, hended, hW, hsame⟩ := X363.leave (v := some (.int (1 : Int32))) (fun h => by rw [Bd.returns] at h; cases h)
              refine ⟨_, _, pre362 _ ?_, hrun, hended, _, _, rfl, ?_, ⟨_, rfl⟩, hW, hsame.mono (by decide) (by decide)⟩
              · show Steps p.tables e below (T307.setTop (mkF m 152 #[.val (.int p0), .val (.int p1), .val (.int p2), .val (.int sz), .val (.int kv), .val (.int (own_b (¬ ((p2 &&& (2 : Int32)) = (0 : Int32))))), .val (.ref b195), .unset] [(.int (own_b (¬ (kv < sz))))])) _
                refine XS.istore X307.here hx rfl (hb hby at_152) rfl (l' := #[.val (.int p0), .val (.int p1), .val (.int p2), .val (.int sz), .val (.int kv), .val (.int (own_b (¬ ((p2 &&& (2 : Int32)) = (0 : Int32))))), .val (.ref b195), .val (.int (own_b (¬ (kv < sz))))]) rfl ?_
                show Steps p.tables e below (T307.setTop (mkF m 154 #[.val (.int p0), .val (.int p1), .val (.int p2), .val (.int sz), .val (.int kv), .val (.int (own_b (¬ ((p2 &&& (2 : Int32)) = (0 : Int32))))), .val (.ref b195), .val (.int (own_b (¬ (kv < sz))))] [])) _
                refine XS.aload X307.here hx rfl (hb hby at_154) rfl rfl ?_
                show Steps p.tables e below (T307.setTop (mkF m 156 #[.val (.int p0), .val (.int p1), .val (.int p2), .val (.int sz), .val (.int kv), .val (.int (own_b (¬ ((p2 &&& (2 : Int32)) = (0 : Int32))))), .val (.ref b195), .val (.int (own_b (¬ (kv < sz))))] [(.ref b195)])) _
                refine st363.trans ?_
                show Steps p.tables e below (T363.setTop (mkF m 159 #[.val (.int p0), .val (.int p1), .val (.int p2), .val (.int sz), .val (.int kv), .val (.int (own_b (¬ ((p2 &&& (2 : Int32)) = (0 : Int32))))), .val (.ref b195), .val (.int (own_b (¬ (kv < sz))))] [(.int (own_b (¬ (((((0 : Int64) + (1 : Int64)) + (1 : Int64)) + (1 : Int64)) < (sz.toInt64)))))])) _
                refine XS.iload X363.here hx rfl (hb hby at_159) rfl  ?_
                show Steps p.tables e below (T363.setTop (mkF m 161 #[.val (.int p0), .val (.int p1), .val (.int p2), .val (.int sz), .val (.int kv), .val (.int (own_b (¬ ((p2 &&& (2 : Int32)) = (0 : Int32))))), .val (.ref b195), .val (.int (own_b (¬ (kv < sz))))] [(.int (own_b (¬ (kv < sz)))), (.int (own_b (¬ (((((0 : Int64) + (1 : Int64)) + (1 : Int64)) + (1 : Int64)) < (sz.toInt64)))))])) _
                refine XS.icmpNo X363.here hx rfl (hb hby at_161) rfl (teq (own_fin 3 hsz (by decide) (own_eqk 3 (hc305) hc313 (by decide) (by decide)))).2 ?_
                show Steps p.tables e below (T363.setTop (mkF m 164 #[.val (.int p0), .val (.int p1), .val (.int p2), .val (.int sz), .val (.int kv), .val (.int (own_b (¬ ((p2 &&& (2 : Int32)) = (0 : Int32))))), .val (.ref b195), .val (.int (own_b (¬ (kv < sz))))] [])) _
                refine XS.iconst X363.here hx rfl (hb hby at_164) ?_
                show Steps p.tables e below (T363.setTop (mkF m 165 #[.val (.int p0), .val (.int p1), .val (.int p2), .val (.int sz), .val (.int kv), .val (.int (own_b (¬ ((p2 &&& (2 : Int32)) = (0 : Int32))))), .val (.ref b195), .val (.int (own_b (¬ (kv < sz))))] [(.int (1 : Int32))])) _
                refine XS.goto X363.here hx rfl (pc0 := 165) (pc' := 169) rfl (hb hby at_165) (by decide) (by decide) ?_
                show Steps p.tables e below (T363.setTop (mkF m 169 #[.val (.int p0), .val (.int p1), .val (.int p2), .val (.int sz), .val (.int kv), .val (.int (own_b (¬ ((p2 &&& (2 : Int32)) = (0 : Int32))))), .val (.ref b195), .val (.int (own_b (¬ (kv < sz))))] [(.int (1 : Int32))])) _
                exact retN X363 hx (t := .boolean) Bd.returns (by simp) (hb hby at_169) hrZ
              · show Q0 Z p0 p1 p2 h0 n0 _ T363.heap _
                rw [e363]
                exact ⟨rfl, N363⟩
          ·  -- no
            have pre364 : ∀ tZ, Steps p.tables e below (T299.setTop (mkF m 144 #[.val (.int p0), .val (.int p1), .val (.int p2), .val (.int sz), .val (.int kv), .val (.int (own_b (¬ ((p2 &&& (2 : Int32)) = (0 : Int32))))), .val (.ref b195), .unset] [(.int sz), (.int kv)])) tZ → Steps p.tables e below (s₁.setTop (entryFrame m #[(.int p0), (.int p1), (.int p2)] maxLocals)) tZ := fun tZ kZ => pre304 tZ (by
              show Steps p.tables e below (T299.setTop (mkF m 88 #[.val (.int p0), .val (.int p1), .val (.int p2), .val (.int sz), .val (.int kv), .val (.int (own_b (¬ ((p2 &&& (2 : Int32)) = (0 : Int32))))), .val (.ref b195), .unset] [(.int (2 : Int32)), (.int kv)])) _
              refine XS.icmpYes X299.here hx rfl (pc0 := 88) (pc' := 96) rfl (hb hby at_88) rfl (flt hc305).2.2.2 (by decide) (by decide) ?_
              show Steps p.tables e below (T299.setTop (mkF m 96 #[.val (.int p0), .val (.int p1), .val (.int p2), .val (.int sz), .val (.int kv), .val (.int (own_b (¬ ((p2 &&& (2 : Int32)) = (0 : Int32))))), .val (.ref b195), .unset] [])) _
              refine XS.iload X299.here hx rfl (hb hby at_96) rfl  ?_
              show Steps p.tables e below (T299.setTop (mkF m 98 #[.val (.int p0), .val (.int p1), .val (.int p2), .val (.int sz), .val (.int kv), .val (.int (own_b (¬ ((p2 &&& (2 : Int32)) = (0 : Int32))))), .val (.ref b195), .unset] [(.int kv)])) _
              refine XS.iconst X299.here hx rfl (hb hby at_98) ?_
              show Steps p.tables e below (T299.setTop (mkF m 99 #[.val (.int p0), .val (.int p1), .val (.int p2), .val (.int sz), .val (.int kv), .val (.int (own_b (¬ ((p2 &&& (2 : Int32)) = (0 : Int32))))), .val (.ref b195), .unset] [(.int (3 : Int32)), (.int kv)])) _
              refine XS.icmpYes X299.here hx rfl (pc0 := 99) (pc' := 107) rfl (hb hby at_99) rfl (flt (own_no hc305 (by decide))).2.2.2 (by decide) (by decide) ?_
              show Steps p.tables e below (T299.setTop (mkF m 107 #[.val (.int p0), .val (.int p1), .val (.int p2), .val (.int sz), .val (.int kv), .val (.int (own_b (¬ ((p2 &&& (2 : Int32)) = (0 : Int32))))), .val (.ref b195), .unset] [])) _
              refine XS.iload X299.here hx rfl (hb hby at_107) rfl  ?_
              show Steps p.tables e below (T299.setTop (mkF m 109 #[.val (.int p0), .val (.int p1), .val (.int p2), .val (.int sz), .val (.int kv), .val (.int (own_b (¬ ((p2 &&& (2 : Int32)) = (0 : Int32))))), .val (.ref b195), .unset] [(.int kv)])) _
              refine XS.iconst X299.here hx rfl (hb hby at_109) ?_
              show Steps p.tables e below (T299.setTop (mkF m 110 #[.val (.int p0), .val (.int p1), .val (.int p2), .val (.int sz), .val (.int kv), .val (.int (own_b (¬ ((p2 &&& (2 : Int32)) = (0 : Int32))))), .val (.ref b195), .unset] [(.int (4 : Int32)), (.int kv)])) _
              refine XS.icmpYes X299.here hx rfl (pc0 := 110) (pc' := 118) rfl (hb hby at_110) rfl (flt (own_no hc305 (by decide))).2.2.2 (by decide) (by decide) ?_
              show Steps p.tables e below (T299.setTop (mkF m 118 #[.val (.int p0), .val (.int p1), .val (.int p2), .val (.int sz), .val (.int kv), .val (.int (own_b (¬ ((p2 &&& (2 : Int32)) = (0 : Int32))))), .val (.ref b195), .unset] [])) _
              refine XS.iload X299.here hx rfl (hb hby at_118) rfl  ?_
              show Steps p.tables e below (T299.setTop (mkF m 120 #[.val (.int p0), .val (.int p1), .val (.int p2), .val (.int sz), .val (.int kv), .val (.int (own_b (¬ ((p2 &&& (2 : Int32)) = (0 : Int32))))), .val (.ref b195), .unset] [(.int kv)])) _
              refine XS.iconst X299.here hx rfl (hb hby at_120) ?_
              show Steps p.tables e below (T299.setTop (mkF m 121 #[.val (.int p0), .val (.int p1), .val (.int p2), .val (.int sz), .val (.int kv), .val (.int (own_b (¬ ((p2 &&& (2 : Int32)) = (0 : Int32))))), .val (.ref b195), .unset] [(.int (5 : Int32)), (.int kv)])) _
              refine XS.icmpYes X299.here hx rfl (pc0 := 121) (pc' := 129) rfl (hb hby at_121) rfl (flt (own_no hc305 (by decide))).2.2.2 (by decide) (by decide) ?_
              show Steps p.tables e below (T299.setTop (mkF m 129 #[.val (.int p0), .val (.int p1), .val (.int p2), .val (.int sz), .val (.int kv), .val (.int (own_b (¬ ((p2 &&& (2 : Int32)) = (0 : Int32))))), .val (.ref b195), .unset] [])) _
              refine XS.iload X299.here hx rfl (hb hby at_129) rfl  ?_
              show Steps p.tables e below (T299.setTop (mkF m 131 #[.val (.int p0), .val (.int p1), .val (.int p2), .val (.int sz), .val (.int kv), .val (.int (own_b (¬ ((p2 &&& (2 : Int32)) = (0 : Int32))))), .val (.ref b195), .unset] [(.int kv)])) _
              refine XS.bipush X299.here hx rfl (hb hby at_131) ?_
              show Steps p.tables e below (T299.setTop (mkF m 133 #[.val (.int p0), .val (.int p1), .val (.int p2), .val (.int sz), .val (.int kv), .val (.int (own_b (¬ ((p2 &&& (2 : Int32)) = (0 : Int32))))), .val (.ref b195), .unset] [(.int (6 : Int32)), (.int kv)])) _
              refine XS.icmpYes X299.here hx rfl (pc0 := 133) (pc' := 141) rfl (hb hby at_133) rfl (flt (own_no hc305 (by decide))).2.2.2 (by decide) (by decide) ?_
              show Steps p.tables e below (T299.setTop (mkF m 141 #[.val (.int p0), .val (.int p1), .val (.int p2), .val (.int sz), .val (.int kv), .val (.int (own_b (¬ ((p2 &&& (2 : Int32)) = (0 : Int32))))), .val (.ref b195), .unset] [])) _
              refine XS.iload X299.here hx rfl (hb hby at_141) rfl  ?_
              show Steps p.tables e below (T299.setTop (mkF m 143 #[.val (.int p0), .val (.int p1), .val (.int p2), .val (.int sz), .val (.int kv), .val (.int (own_b (¬ ((p2 &&& (2 : Int32)) = (0 : Int32))))), .val (.ref b195), .unset] [(.int kv)])) _
              refine XS.iloadN X299.here hx rfl (hb hby at_143) rfl  ?_
              exact kZ)
            have pre366 : ∀ tZ, Steps p.tables e below (T299.setTop (mkF m 152 #[.val (.int p0), .val (.int p1), .val (.int p2), .val (.int sz), .val (.int kv), .val (.int (own_b (¬ ((p2 &&& (2 : Int32)) = (0 : Int32))))), .val (.ref b195), .unset] [(.int (own_b (¬ (kv < sz))))])) tZ → Steps p.tables e below (s₁.setTop (entryFrame m #[(.int p0), (.int p1), (.int p2)] maxLocals)) tZ := fun tZ kZ => pre364 tZ (by
              by_cases hc365 : kv < sz
              ·  -- yes
                show Steps p.tables e below (T299.setTop (mkF m 144 #[.val (.int p0), .val (.int p1), .val (.int p2), .val (.int sz), .val (.int kv), .val (.int (own_b (¬ ((p2 &&& (2 : Int32)) = (0 : Int32))))), .val (.ref b195), .unset] [(.int sz), (.int kv)])) _
                refine XS.icmpYes X299.here hx rfl (pc0 := 144) (pc' := 151) rfl (hb hby at_144) rfl (tlt hc365).1 (by decide) (by decide) ?_
                show Steps p.tables e below (T299.setTop (mkF m 151 #[.val (.int p0), .val (.int p1), .val (.int p2), .val (.int sz), .val (.int kv), .val (.int (own_b (¬ ((p2 &&& (2 : Int32)) = (0 : Int32))))), .val (.ref b195), .unset] [])) _
                refine XS.iconst X299.here hx rfl (hb hby at_151) ?_
                have ekZ : (own_b (¬ (kv < sz))) = (0 : Int32) := by first | (simp only [own_b, eq_true hc365, and_true, true_and, and_false, false_and, or_true, true_or, or_false, false_or, not_true_eq_false, not_false_eq_true, if_true, if_false, reduceIte]; done) | (simp [own_b, hc365]; done)
                rw [ekZ] at kZ
                exact kZ
              ·  -- no
                show Steps p.tables e below (T299.setTop (mkF m 144 #[.val (.int p0), .val (.int p1), .val (.int p2), .val (.int sz), .val (.int kv), .val (.int (own_b (¬ ((p2 &&& (2 : Int32)) = (0 : Int32))))), .val (.ref b195), .unset] [(.int sz), (.int kv)])) _
                refine XS.icmpNo X299.here hx rfl (hb hby at_144) rfl (flt hc365).1 ?_
                show Steps p.tables e below (T299.setTop (mkF m 147 #[.val (.int p0), .val (.int p1), .val (.int p2), .val (.int sz), .val (.int kv), .val (.int (own_b (¬ ((p2 &&& (2 : Int32)) = (0 : Int32))))), .val (.ref b195), .unset] [])) _
                refine XS.iconst X299.here hx rfl (hb hby at_147) ?_
                show Steps p.tables e below (T299.setTop (mkF m 148 #[.val (.int p0), .val (.int p1), .val (.int p2), .val (.int sz), .val (.int kv), .val (.int (own_b (¬ ((p2 &&& (2 : Int32)) = (0 : Int32))))), .val (.ref b195), .unset] [(.int (1 : Int32))])) _
                refine XS.goto X299.here hx rfl (pc0 := 148) (pc' := 152) rfl (hb hby at_148) (by decide) (by decide) ?_
                have ekZ : (own_b (¬ (kv < sz))) = (1 : Int32) := by first | (simp only [own_b, eq_false hc365, and_true, true_and, and_false, false_and, or_true, true_or, or_false, false_or, not_true_eq_false, not_false_eq_true, if_true, if_false, reduceIte]; done) | (simp [own_b, hc365]; done)
                rw [ekZ] at kZ
                exact kZ)
            obtain ⟨cq367, kq367, q367a, q367b, q367c⟩ := isOf hZ rfl f299_0
            obtain ⟨_, _, ⟨T367, L367, k367, n367⟩, -, X367, ⟨Lc367, hQ367, l367, y367, z367⟩, st367⟩ := X299.virtualBack hx (y := (⟨oE, "full", "()Z"⟩ : MethodName)) (z := (⟨oE, "full", "()Z"⟩ : MethodName)) hown (mvT hZ (ow hw 91 rfl)) (mvT hZ (ow hw 92 rfl)) (notFace_of_selects (args := #[]) (mvT hZ (ow hw 94 rfl))) (mvT hZ (ow hw 94 rfl)) (mvT hZ (ow hw 93 rfl)) (by decide) (backOf (W := 0) (rm16 l Z a0 hw [] b195 sz (((0 : Int64) + (1 : Int64)) + (1 : Int64)) T299.heap n0 Z303 f299_2 f299_3) hZ (ow hw 95 rfl) (ow hw 7 rfl) (by decide) (by decide)) q367a q367c (g := (mkF m 156 #[.val (.int p0), .val (.int p1), .val (.int p2), .val (.int sz), .val (.int kv), .val (.int (own_b (¬ ((p2 &&& (2 : Int32)) = (0 : Int32))))), .val (.ref b195), .val (.int (own_b (¬ (kv < sz))))] [(.ref b195)])) rfl (by rw [hml]; rfl) (Steps.refl _) (argsL := []) (rest := []) (lenOf pd8 rfl) rfl (by show 2 * 0 + _ ≤ _; exact Nat.le_of_eq rfl) (hb hby at_156) (fun _ _ => ⟨rfl, rfl, (by decide : 3 + 0 ≤ _), (by decide : 8 + 0 ≤ _)⟩)
            dsimp only [Pt.U, Pt.locs, Pt.cells, Pt.slots] at X367 l367 y367 z367 st367 hQ367
            subst l367 y367 z367
            obtain ⟨rfl, N367q, e367⟩ := hQ367
            have N367 := Fr.app N299 N367q
            obtain ⟨fsZ, hrZ, hrun, hended, hW, hsame⟩ := X367.leave (v := some (.int (1 : Int32))) (fun h => by rw [Bd.returns] at h; cases h)
            refine ⟨_, _, pre366 _ ?_, hrun, hended, _, _, rfl, ?_, ⟨_, rfl⟩, hW, hsame.mono (by decide) (by decide)⟩
            · show Steps p.tables e below (T299.setTop (mkF m 152 #[.val (.int p0), .val (.int p1), .val (.int p2), .val (.int sz), .val (.int kv), .val (.int (own_b (¬ ((p2 &&& (2 : Int32)) = (0 : Int32))))), .val (.ref b195), .unset] [(.int (own_b (¬ (kv < sz))))])) _
              refine XS.istore X299.here hx rfl (hb hby at_152) rfl (l' := #[.val (.int p0), .val (.int p1), .val (.int p2), .val (.int sz), .val (.int kv), .val (.int (own_b (¬ ((p2 &&& (2 : Int32)) = (0 : Int32))))), .val (.ref b195), .val (.int (own_b (¬ (kv < sz))))]) rfl ?_
              show Steps p.tables e below (T299.setTop (mkF m 154 #[.val (.int p0), .val (.int p1), .val (.int p2), .val (.int sz), .val (.int kv), .val (.int (own_b (¬ ((p2 &&& (2 : Int32)) = (0 : Int32))))), .val (.ref b195), .val (.int (own_b (¬ (kv < sz))))] [])) _
              refine XS.aload X299.here hx rfl (hb hby at_154) rfl rfl ?_
              show Steps p.tables e below (T299.setTop (mkF m 156 #[.val (.int p0), .val (.int p1), .val (.int p2), .val (.int sz), .val (.int kv), .val (.int (own_b (¬ ((p2 &&& (2 : Int32)) = (0 : Int32))))), .val (.ref b195), .val (.int (own_b (¬ (kv < sz))))] [(.ref b195)])) _
              refine st367.trans ?_
              show Steps p.tables e below (T367.setTop (mkF m 159 #[.val (.int p0), .val (.int p1), .val (.int p2), .val (.int sz), .val (.int kv), .val (.int (own_b (¬ ((p2 &&& (2 : Int32)) = (0 : Int32))))), .val (.ref b195), .val (.int (own_b (¬ (kv < sz))))] [(.int (own_b (¬ ((((0 : Int64) + (1 : Int64)) + (1 : Int64)) < (sz.toInt64)))))])) _
              refine XS.iload X367.here hx rfl (hb hby at_159) rfl  ?_
              show Steps p.tables e below (T367.setTop (mkF m 161 #[.val (.int p0), .val (.int p1), .val (.int p2), .val (.int sz), .val (.int kv), .val (.int (own_b (¬ ((p2 &&& (2 : Int32)) = (0 : Int32))))), .val (.ref b195), .val (.int (own_b (¬ (kv < sz))))] [(.int (own_b (¬ (kv < sz)))), (.int (own_b (¬ ((((0 : Int64) + (1 : Int64)) + (1 : Int64)) < (sz.toInt64)))))])) _
              refine XS.icmpNo X367.here hx rfl (hb hby at_161) rfl (teq (own_fin 2 hsz (by decide) (own_eqk 2 (hc297) hc305 (by decide) (by decide)))).2 ?_
              show Steps p.tables e below (T367.setTop (mkF m 164 #[.val (.int p0), .val (.int p1), .val (.int p2), .val (.int sz), .val (.int kv), .val (.int (own_b (¬ ((p2 &&& (2 : Int32)) = (0 : Int32))))), .val (.ref b195), .val (.int (own_b (¬ (kv < sz))))] [])) _
              refine XS.iconst X367.here hx rfl (hb hby at_164) ?_
              show Steps p.tables e below (T367.setTop (mkF m 165 #[.val (.int p0), .val (.int p1), .val (.int p2), .val (.int sz), .val (.int kv), .val (.int (own_b (¬ ((p2 &&& (2 : Int32)) = (0 : Int32))))), .val (.ref b195), .val (.int (own_b (¬ (kv < sz))))] [(.int (1 : Int32))])) _
              refine XS.goto X367.here hx rfl (pc0 := 165) (pc' := 169) rfl (hb hby at_165) (by decide) (by decide) ?_
              show Steps p.tables e below (T367.setTop (mkF m 169 #[.val (.int p0), .val (.int p1), .val (.int p2), .val (.int sz), .val (.int kv), .val (.int (own_b (¬ ((p2 &&& (2 : Int32)) = (0 : Int32))))), .val (.ref b195), .val (.int (own_b (¬ (kv < sz))))] [(.int (1 : Int32))])) _
              exact retN X367 hx (t := .boolean) Bd.returns (by simp) (hb hby at_169) hrZ
            · show Q0 Z p0 p1 p2 h0 n0 _ T367.heap _
              rw [e367]
              exact ⟨rfl, N367⟩
        ·  -- no
          have pre368 : ∀ tZ, Steps p.tables e below (T207.setTop (mkF m 144 #[.val (.int p0), .val (.int p1), .val (.int p2), .val (.int sz), .val (.int kv), .val (.int (own_b (¬ ((p2 &&& (2 : Int32)) = (0 : Int32))))), .val (.ref b195), .unset] [(.int sz), (.int kv)])) tZ → Steps p.tables e below (s₁.setTop (entryFrame m #[(.int p0), (.int p1), (.int p2)] maxLocals)) tZ := fun tZ kZ => pre296 tZ (by
            show Steps p.tables e below (T207.setTop (mkF m 77 #[.val (.int p0), .val (.int p1), .val (.int p2), .val (.int sz), .val (.int kv), .val (.int (own_b (¬ ((p2 &&& (2 : Int32)) = (0 : Int32))))), .val (.ref b195), .unset] [(.int (1 : Int32)), (.int kv)])) _
            refine XS.icmpYes X207.here hx rfl (pc0 := 77) (pc' := 85) rfl (hb hby at_77) rfl (flt hc297).2.2.2 (by decide) (by decide) ?_
            show Steps p.tables e below (T207.setTop (mkF m 85 #[.val (.int p0), .val (.int p1), .val (.int p2), .val (.int sz), .val (.int kv), .val (.int (own_b (¬ ((p2 &&& (2 : Int32)) = (0 : Int32))))), .val (.ref b195), .unset] [])) _
            refine XS.iload X207.here hx rfl (hb hby at_85) rfl  ?_
            show Steps p.tables e below (T207.setTop (mkF m 87 #[.val (.int p0), .val (.int p1), .val (.int p2), .val (.int sz), .val (.int kv), .val (.int (own_b (¬ ((p2 &&& (2 : Int32)) = (0 : Int32))))), .val (.ref b195), .unset] [(.int kv)])) _
            refine XS.iconst X207.here hx rfl (hb hby at_87) ?_
            show Steps p.tables e below (T207.setTop (mkF m 88 #[.val (.int p0), .val (.int p1), .val (.int p2), .val (.int sz), .val (.int kv), .val (.int (own_b (¬ ((p2 &&& (2 : Int32)) = (0 : Int32))))), .val (.ref b195), .unset] [(.int (2 : Int32)), (.int kv)])) _
            refine XS.icmpYes X207.here hx rfl (pc0 := 88) (pc' := 96) rfl (hb hby at_88) rfl (flt (own_no hc297 (by decide))).2.2.2 (by decide) (by decide) ?_
            show Steps p.tables e below (T207.setTop (mkF m 96 #[.val (.int p0), .val (.int p1), .val (.int p2), .val (.int sz), .val (.int kv), .val (.int (own_b (¬ ((p2 &&& (2 : Int32)) = (0 : Int32))))), .val (.ref b195), .unset] [])) _
            refine XS.iload X207.here hx rfl (hb hby at_96) rfl  ?_
            show Steps p.tables e below (T207.setTop (mkF m 98 #[.val (.int p0), .val (.int p1), .val (.int p2), .val (.int sz), .val (.int kv), .val (.int (own_b (¬ ((p2 &&& (2 : Int32)) = (0 : Int32))))), .val (.ref b195), .unset] [(.int kv)])) _
            refine XS.iconst X207.here hx rfl (hb hby at_98) ?_
            show Steps p.tables e below (T207.setTop (mkF m 99 #[.val (.int p0), .val (.int p1), .val (.int p2), .val (.int sz), .val (.int kv), .val (.int (own_b (¬ ((p2 &&& (2 : Int32)) = (0 : Int32))))), .val (.ref b195), .unset] [(.int (3 : Int32)), (.int kv)])) _
            refine XS.icmpYes X207.here hx rfl (pc0 := 99) (pc' := 107) rfl (hb hby at_99) rfl (flt (own_no hc297 (by decide))).2.2.2 (by decide) (by decide) ?_
            show Steps p.tables e below (T207.setTop (mkF m 107 #[.val (.int p0), .val (.int p1), .val (.int p2), .val (.int sz), .val (.int kv), .val (.int (own_b (¬ ((p2 &&& (2 : Int32)) = (0 : Int32))))), .val (.ref b195), .unset] [])) _
            refine XS.iload X207.here hx rfl (hb hby at_107) rfl  ?_
            show Steps p.tables e below (T207.setTop (mkF m 109 #[.val (.int p0), .val (.int p1), .val (.int p2), .val (.int sz), .val (.int kv), .val (.int (own_b (¬ ((p2 &&& (2 : Int32)) = (0 : Int32))))), .val (.ref b195), .unset] [(.int kv)])) _
            refine XS.iconst X207.here hx rfl (hb hby at_109) ?_
            show Steps p.tables e below (T207.setTop (mkF m 110 #[.val (.int p0), .val (.int p1), .val (.int p2), .val (.int sz), .val (.int kv), .val (.int (own_b (¬ ((p2 &&& (2 : Int32)) = (0 : Int32))))), .val (.ref b195), .unset] [(.int (4 : Int32)), (.int kv)])) _
            refine XS.icmpYes X207.here hx rfl (pc0 := 110) (pc' := 118) rfl (hb hby at_110) rfl (flt (own_no hc297 (by decide))).2.2.2 (by decide) (by decide) ?_
            show Steps p.tables e below (T207.setTop (mkF m 118 #[.val (.int p0), .val (.int p1), .val (.int p2), .val (.int sz), .val (.int kv), .val (.int (own_b (¬ ((p2 &&& (2 : Int32)) = (0 : Int32))))), .val (.ref b195), .unset] [])) _
            refine XS.iload X207.here hx rfl (hb hby at_118) rfl  ?_
            show Steps p.tables e below (T207.setTop (mkF m 120 #[.val (.int p0), .val (.int p1), .val (.int p2), .val (.int sz), .val (.int kv), .val (.int (own_b (¬ ((p2 &&& (2 : Int32)) = (0 : Int32))))), .val (.ref b195), .unset] [(.int kv)])) _
            refine XS.iconst X207.here hx rfl (hb hby at_120) ?_
            show Steps p.tables e below (T207.setTop (mkF m 121 #[.val (.int p0), .val (.int p1), .val (.int p2), .val (.int sz), .val (.int kv), .val (.int (own_b (¬ ((p2 &&& (2 : Int32)) = (0 : Int32))))), .val (.ref b195), .unset] [(.int (5 : Int32)), (.int kv)])) _
            refine XS.icmpYes X207.here hx rfl (pc0 := 121) (pc' := 129) rfl (hb hby at_121) rfl (flt (own_no hc297 (by decide))).2.2.2 (by decide) (by decide) ?_
            show Steps p.tables e below (T207.setTop (mkF m 129 #[.val (.int p0), .val (.int p1), .val (.int p2), .val (.int sz), .val (.int kv), .val (.int (own_b (¬ ((p2 &&& (2 : Int32)) = (0 : Int32))))), .val (.ref b195), .unset] [])) _
            refine XS.iload X207.here hx rfl (hb hby at_129) rfl  ?_
            show Steps p.tables e below (T207.setTop (mkF m 131 #[.val (.int p0), .val (.int p1), .val (.int p2), .val (.int sz), .val (.int kv), .val (.int (own_b (¬ ((p2 &&& (2 : Int32)) = (0 : Int32))))), .val (.ref b195), .unset] [(.int kv)])) _
            refine XS.bipush X207.here hx rfl (hb hby at_131) ?_
            show Steps p.tables e below (T207.setTop (mkF m 133 #[.val (.int p0), .val (.int p1), .val (.int p2), .val (.int sz), .val (.int kv), .val (.int (own_b (¬ ((p2 &&& (2 : Int32)) = (0 : Int32))))), .val (.ref b195), .unset] [(.int (6 : Int32)), (.int kv)])) _
            refine XS.icmpYes X207.here hx rfl (pc0 := 133) (pc' := 141) rfl (hb hby at_133) rfl (flt (own_no hc297 (by decide))).2.2.2 (by decide) (by decide) ?_
            show Steps p.tables e below (T207.setTop (mkF m 141 #[.val (.int p0), .val (.int p1), .val (.int p2), .val (.int sz), .val (.int kv), .val (.int (own_b (¬ ((p2 &&& (2 : Int32)) = (0 : Int32))))), .val (.ref b195), .unset] [])) _
            refine XS.iload X207.here hx rfl (hb hby at_141) rfl  ?_
            show Steps p.tables e below (T207.setTop (mkF m 143 #[.val (.int p0), .val (.int p1), .val (.int p2), .val (.int sz), .val (.int kv), .val (.int (own_b (¬ ((p2 &&& (2 : Int32)) = (0 : Int32))))), .val (.ref b195), .unset] [(.int kv)])) _
            refine XS.iloadN X207.here hx rfl (hb hby at_143) rfl  ?_
            exact kZ)
          have pre370 : ∀ tZ, Steps p.tables e below (T207.setTop (mkF m 152 #[.val (.int p0), .val (.int p1), .val (.int p2), .val (.int sz), .val (.int kv), .val (.int (own_b (¬ ((p2 &&& (2 : Int32)) = (0 : Int32))))), .val (.ref b195), .unset] [(.int (own_b (¬ (kv < sz))))])) tZ → Steps p.tables e below (s₁.setTop (entryFrame m #[(.int p0), (.int p1), (.int p2)] maxLocals)) tZ := fun tZ kZ => pre368 tZ (by
            by_cases hc369 : kv < sz
            ·  -- yes
              show Steps p.tables e below (T207.setTop (mkF m 144 #[.val (.int p0), .val (.int p1), .val (.int p2), .val (.int sz), .val (.int kv), .val (.int (own_b (¬ ((p2 &&& (2 : Int32)) = (0 : Int32))))), .val (.ref b195), .unset] [(.int sz), (.int kv)])) _
              refine XS.icmpYes X207.here hx rfl (pc0 := 144) (pc' := 151) rfl (hb hby at_144) rfl (tlt hc369).1 (by decide) (by decide) ?_
              show Steps p.tables e below (T207.setTop (mkF m 151 #[.val (.int p0), .val (.int p1), .val (.int p2), .val (.int sz), .val (.int kv), .val (.int (own_b (¬ ((p2 &&& (2 : Int32)) = (0 : Int32))))), .val (.ref b195), .unset] [])) _
              refine XS.iconst X207.here hx rfl (hb hby at_151) ?_
              have ekZ : (own_b (¬ (kv < sz))) = (0 : Int32) := by first | (simp only [own_b, eq_true hc369, and_true, true_and, and_false, false_and, or_true, true_or, or_false, false_or, not_true_eq_false, not_false_eq_true, if_true, if_false, reduceIte]; done) | (simp [own_b, hc369]; done)
              rw [ekZ] at kZ
              exact kZ
            ·  -- no
              show Steps p.tables e below (T207.setTop (mkF m 144 #[.val (.int p0), .val (.int p1), .val (.int p2), .val (.int sz), .val (.int kv), .val (.int (own_b (¬ ((p2 &&& (2 : Int32)) = (0 : Int32))))), .val (.ref b195), .unset] [(.int sz), (.int kv)])) _
              refine XS.icmpNo X207.here hx rfl (hb hby at_144) rfl (flt hc369).1 ?_
              show Steps p.tables e below (T207.setTop (mkF m 147 #[.val (.int p0), .val (.int p1), .val (.int p2), .val (.int sz), .val (.int kv), .val (.int (own_b (¬ ((p2 &&& (2 : Int32)) = (0 : Int32))))), .val (.ref b195), .unset] [])) _
              refine XS.iconst X207.here hx rfl (hb hby at_147) ?_
              show Steps p.tables e below (T207.setTop (mkF m 148 #[.val (.int p0), .val (.int p1), .val (.int p2), .val (.int sz), .val (.int kv), .val (.int (own_b (¬ ((p2 &&& (2 : Int32)) = (0 : Int32))))), .val (.ref b195), .unset] [(.int (1 : Int32))])) _
              refine XS.goto X207.here hx rfl (pc0 := 148) (pc' := 152) rfl (hb hby at_148) (by decide) (by decide) ?_
              have ekZ : (own_b (¬ (kv < sz))) = (1 : Int32) := by first | (simp only [own_b, eq_false hc369, and_true, true_and, and_false, false_and, or_true, true_or, or_false, false_or, not_true_eq_false, not_false_eq_true, if_true, if_false, reduceIte]; done) | (simp [own_b, hc369]; done)
              rw [ekZ] at kZ
              exact kZ)
          obtain ⟨cq371, kq371, q371a, q371b, q371c⟩ := isOf hZ rfl f207_0
          obtain ⟨_, _, ⟨T371, L371, k371, n371⟩, -, X371, ⟨Lc371, hQ371, l371, y371, z371⟩, st371⟩ := X207.virtualBack hx (y := (⟨oE, "full", "()Z"⟩ : MethodName)) (z := (⟨oE, "full", "()Z"⟩ : MethodName)) hown (mvT hZ (ow hw 91 rfl)) (mvT hZ (ow hw 92 rfl)) (notFace_of_selects (args := #[]) (mvT hZ (ow hw 94 rfl))) (mvT hZ (ow hw 94 rfl)) (mvT hZ (ow hw 93 rfl)) (by decide) (backOf (W := 0) (rm16 l Z a0 hw [] b195 sz ((0 : Int64) + (1 : Int64)) T207.heap n0 Z211 f207_2 f207_3) hZ (ow hw 95 rfl) (ow hw 7 rfl) (by decide) (by decide)) q371a q371c (g := (mkF m 156 #[.val (.int p0), .val (.int p1), .val (.int p2), .val (.int sz), .val (.int kv), .val (.int (own_b (¬ ((p2 &&& (2 : Int32)) = (0 : Int32))))), .val (.ref b195), .val (.int (own_b (¬ (kv < sz))))] [(.ref b195)])) rfl (by rw [hml]; rfl) (Steps.refl _) (argsL := []) (rest := []) (lenOf pd8 rfl) rfl (by show 2 * 0 + _ ≤ _; exact Nat.le_of_eq rfl) (hb hby at_156) (fun _ _ => ⟨rfl, rfl, (by decide : 3 + 0 ≤ _), (by decide : 8 + 0 ≤ _)⟩)
          dsimp only [Pt.U, Pt.locs, Pt.cells, Pt.slots] at X371 l371 y371 z371 st371 hQ371
          subst l371 y371 z371
          obtain ⟨rfl, N371q, e371⟩ := hQ371
          have N371 := Fr.app N207 N371q
          obtain ⟨fsZ, hrZ, hrun, hended, hW, hsame⟩ := X371.leave (v := some (.int (1 : Int32))) (fun h => by rw [Bd.returns] at h; cases h)
          refine ⟨_, _, pre370 _ ?_, hrun, hended, _, _, rfl, ?_, ⟨_, rfl⟩, hW, hsame.mono (by decide) (by decide)⟩
          · show Steps p.tables e below (T207.setTop (mkF m 152 #[.val (.int p0), .val (.int p1), .val (.int p2), .val (.int sz), .val (.int kv), .val (.int (own_b (¬ ((p2 &&& (2 : Int32)) = (0 : Int32))))), .val (.ref b195), .unset] [(.int (own_b (¬ (kv < sz))))])) _
            refine XS.istore X207.here hx rfl (hb hby at_152) rfl (l' := #[.val (.int p0), .val (.int p1), .val (.int p2), .val (.int sz), .val (.int kv), .val (.int (own_b (¬ ((p2 &&& (2 : Int32)) = (0 : Int32))))), .val (.ref b195), .val (.int (own_b (¬ (kv < sz))))]) rfl ?_
            show Steps p.tables e below (T207.setTop (mkF m 154 #[.val (.int p0), .val (.int p1), .val (.int p2), .val (.int sz), .val (.int kv), .val (.int (own_b (¬ ((p2 &&& (2 : Int32)) = (0 : Int32))))), .val (.ref b195), .val (.int (own_b (¬ (kv < sz))))] [])) _
            refine XS.aload X207.here hx rfl (hb hby at_154) rfl rfl ?_
            show Steps p.tables e below (T207.setTop (mkF m 156 #[.val (.int p0), .val (.int p1), .val (.int p2), .val (.int sz), .val (.int kv), .val (.int (own_b (¬ ((p2 &&& (2 : Int32)) = (0 : Int32))))), .val (.ref b195), .val (.int (own_b (¬ (kv < sz))))] [(.ref b195)])) _
            refine st371.trans ?_
            show Steps p.tables e below (T371.setTop (mkF m 159 #[.val (.int p0), .val (.int p1), .val (.int p2), .val (.int sz), .val (.int kv), .val (.int (own_b (¬ ((p2 &&& (2 : Int32)) = (0 : Int32))))), .val (.ref b195), .val (.int (own_b (¬ (kv < sz))))] [(.int (own_b (¬ (((0 : Int64) + (1 : Int64)) < (sz.toInt64)))))])) _
            refine XS.iload X371.here hx rfl (hb hby at_159) rfl  ?_
            show Steps p.tables e below (T371.setTop (mkF m 161 #[.val (.int p0), .val (.int p1), .val (.int p2), .val (.int sz), .val (.int kv), .val (.int (own_b (¬ ((p2 &&& (2 : Int32)) = (0 : Int32))))), .val (.ref b195), .val (.int (own_b (¬ (kv < sz))))] [(.int (own_b (¬ (kv < sz)))), (.int (own_b (¬ (((0 : Int64) + (1 : Int64)) < (sz.toInt64)))))])) _
            refine XS.icmpNo X371.here hx rfl (hb hby at_161) rfl (teq (own_fin 1 hsz (by decide) (own_eqk 1 (hc205) hc297 (by decide) (by decide)))).2 ?_
            show Steps p.tables e below (T371.setTop (mkF m 164 #[.val (.int p0), .val (.int p1), .val (.int p2), .val (.int sz), .val (.int kv), .val (.int (own_b (¬ ((p2 &&& (2 : Int32)) = (0 : Int32))))), .val (.ref b195), .val (.int (own_b (¬ (kv < sz))))] [])) _
            refine XS.iconst X371.here hx rfl (hb hby at_164) ?_
            show Steps p.tables e below (T371.setTop (mkF m 165 #[.val (.int p0), .val (.int p1), .val (.int p2), .val (.int sz), .val (.int kv), .val (.int (own_b (¬ ((p2 &&& (2 : Int32)) = (0 : Int32))))), .val (.ref b195), .val (.int (own_b (¬ (kv < sz))))] [(.int (1 : Int32))])) _
            refine XS.goto X371.here hx rfl (pc0 := 165) (pc' := 169) rfl (hb hby at_165) (by decide) (by decide) ?_
            show Steps p.tables e below (T371.setTop (mkF m 169 #[.val (.int p0), .val (.int p1), .val (.int p2), .val (.int sz), .val (.int kv), .val (.int (own_b (¬ ((p2 &&& (2 : Int32)) = (0 : Int32))))), .val (.ref b195), .val (.int (own_b (¬ (kv < sz))))] [(.int (1 : Int32))])) _
            exact retN X371 hx (t := .boolean) Bd.returns (by simp) (hb hby at_169) hrZ
          · show Q0 Z p0 p1 p2 h0 n0 _ T371.heap _
            rw [e371]
            exact ⟨rfl, N371⟩
    ·  -- no
      have pre372 : ∀ tZ, Steps p.tables e below (T197.setTop (mkF m 144 #[.val (.int p0), .val (.int p1), .val (.int p2), .val (.int sz), .val (.int kv), .val (.int (own_b (¬ ((p2 &&& (2 : Int32)) = (0 : Int32))))), .val (.ref b195), .unset] [(.int sz), (.int kv)])) tZ → Steps p.tables e below (s₁.setTop (entryFrame m #[(.int p0), (.int p1), (.int p2)] maxLocals)) tZ := fun tZ kZ => pre204 tZ (by
        show Steps p.tables e below (T197.setTop (mkF m 56 #[.val (.int p0), .val (.int p1), .val (.int p2), .val (.int sz), .val (.int kv), .val (.int (own_b (¬ ((p2 &&& (2 : Int32)) = (0 : Int32))))), .val (.ref b195), .unset] [(.int kv)])) _
        refine XS.ifYes X197.here hx rfl (pc0 := 56) (pc' := 74) rfl (hb hby at_56) rfl ((if0 _ _).trans (flt hc205).2.2.2) (by decide) (by decide) ?_
        show Steps p.tables e below (T197.setTop (mkF m 74 #[.val (.int p0), .val (.int p1), .val (.int p2), .val (.int sz), .val (.int kv), .val (.int (own_b (¬ ((p2 &&& (2 : Int32)) = (0 : Int32))))), .val (.ref b195), .unset] [])) _
        refine XS.iload X197.here hx rfl (hb hby at_74) rfl  ?_
        show Steps p.tables e below (T197.setTop (mkF m 76 #[.val (.int p0), .val (.int p1), .val (.int p2), .val (.int sz), .val (.int kv), .val (.int (own_b (¬ ((p2 &&& (2 : Int32)) = (0 : Int32))))), .val (.ref b195), .unset] [(.int kv)])) _
        refine XS.iconst X197.here hx rfl (hb hby at_76) ?_
        show Steps p.tables e below (T197.setTop (mkF m 77 #[.val (.int p0), .val (.int p1), .val (.int p2), .val (.int sz), .val (.int kv), .val (.int (own_b (¬ ((p2 &&& (2 : Int32)) = (0 : Int32))))), .val (.ref b195), .unset] [(.int (1 : Int32)), (.int kv)])) _
        refine XS.icmpYes X197.here hx rfl (pc0 := 77) (pc' := 85) rfl (hb hby at_77) rfl (flt (own_no hc205 (by decide))).2.2.2 (by decide) (by decide) ?_
        show Steps p.tables e below (T197.setTop (mkF m 85 #[.val (.int p0), .val (.int p1), .val (.int p2), .val (.int sz), .val (.int kv), .val (.int (own_b (¬ ((p2 &&& (2 : Int32)) = (0 : Int32))))), .val (.ref b195), .unset] [])) _
        refine XS.iload X197.here hx rfl (hb hby at_85) rfl  ?_
        show Steps p.tables e below (T197.setTop (mkF m 87 #[.val (.int p0), .val (.int p1), .val (.int p2), .val (.int sz), .val (.int kv), .val (.int (own_b (¬ ((p2 &&& (2 : Int32)) = (0 : Int32))))), .val (.ref b195), .unset] [(.int kv)])) _
        refine XS.iconst X197.here hx rfl (hb hby at_87) ?_
        show Steps p.tables e below (T197.setTop (mkF m 88 #[.val (.int p0), .val (.int p1), .val (.int p2), .val (.int sz), .val (.int kv), .val (.int (own_b (¬ ((p2 &&& (2 : Int32)) = (0 : Int32))))), .val (.ref b195), .unset] [(.int (2 : Int32)), (.int kv)])) _
        refine XS.icmpYes X197.here hx rfl (pc0 := 88) (pc' := 96) rfl (hb hby at_88) rfl (flt (own_no hc205 (by decide))).2.2.2 (by decide) (by decide) ?_
        show Steps p.tables e below (T197.setTop (mkF m 96 #[.val (.int p0), .val (.int p1), .val (.int p2), .val (.int sz), .val (.int kv), .val (.int (own_b (¬ ((p2 &&& (2 : Int32)) = (0 : Int32))))), .val (.ref b195), .unset] [])) _
        refine XS.iload X197.here hx rfl (hb hby at_96) rfl  ?_
        show Steps p.tables e below (T197.setTop (mkF m 98 #[.val (.int p0), .val (.int p1), .val (.int p2), .val (.int sz), .val (.int kv), .val (.int (own_b (¬ ((p2 &&& (2 : Int32)) = (0 : Int32))))), .val (.ref b195), .unset] [(.int kv)])) _
        refine XS.iconst X197.here hx rfl (hb hby at_98) ?_
        show Steps p.tables e below (T197.setTop (mkF m 99 #[.val (.int p0), .val (.int p1), .val (.int p2), .val (.int sz), .val (.int kv), .val (.int (own_b (¬ ((p2 &&& (2 : Int32)) = (0 : Int32))))), .val (.ref b195), .unset] [(.int (3 : Int32)), (.int kv)])) _
        refine XS.icmpYes X197.here hx rfl (pc0 := 99) (pc' := 107) rfl (hb hby at_99) rfl (flt (own_no hc205 (by decide))).2.2.2 (by decide) (by decide) ?_
        show Steps p.tables e below (T197.setTop (mkF m 107 #[.val (.int p0), .val (.int p1), .val (.int p2), .val (.int sz), .val (.int kv), .val (.int (own_b (¬ ((p2 &&& (2 : Int32)) = (0 : Int32))))), .val (.ref b195), .unset] [])) _
        refine XS.iload X197.here hx rfl (hb hby at_107) rfl  ?_
        show Steps p.tables e below (T197.setTop (mkF m 109 #[.val (.int p0), .val (.int p1), .val (.int p2), .val (.int sz), .val (.int kv), .val (.int (own_b (¬ ((p2 &&& (2 : Int32)) = (0 : Int32))))), .val (.ref b195), .unset] [(.int kv)])) _
        refine XS.iconst X197.here hx rfl (hb hby at_109) ?_
        show Steps p.tables e below (T197.setTop (mkF m 110 #[.val (.int p0), .val (.int p1), .val (.int p2), .val (.int sz), .val (.int kv), .val (.int (own_b (¬ ((p2 &&& (2 : Int32)) = (0 : Int32))))), .val (.ref b195), .unset] [(.int (4 : Int32)), (.int kv)])) _
        refine XS.icmpYes X197.here hx rfl (pc0 := 110) (pc' := 118) rfl (hb hby at_110) rfl (flt (own_no hc205 (by decide))).2.2.2 (by decide) (by decide) ?_
        show Steps p.tables e below (T197.setTop (mkF m 118 #[.val (.int p0), .val (.int p1), .val (.int p2), .val (.int sz), .val (.int kv), .val (.int (own_b (¬ ((p2 &&& (2 : Int32)) = (0 : Int32))))), .val (.ref b195), .unset] [])) _
        refine XS.iload X197.here hx rfl (hb hby at_118) rfl  ?_
        show Steps p.tables e below (T197.setTop (mkF m 120 #[.val (.int p0), .val (.int p1), .val (.int p2), .val (.int sz), .val (.int kv), .val (.int (own_b (¬ ((p2 &&& (2 : Int32)) = (0 : Int32))))), .val (.ref b195), .unset] [(.int kv)])) _
        refine XS.iconst X197.here hx rfl (hb hby at_120) ?_
        show Steps p.tables e below (T197.setTop (mkF m 121 #[.val (.int p0), .val (.int p1), .val (.int p2), .val (.int sz), .val (.int kv), .val (.int (own_b (¬ ((p2 &&& (2 : Int32)) = (0 : Int32))))), .val (.ref b195), .unset] [(.int (5 : Int32)), (.int kv)])) _
        refine XS.icmpYes X197.here hx rfl (pc0 := 121) (pc' := 129) rfl (hb hby at_121) rfl (flt (own_no hc205 (by decide))).2.2.2 (by decide) (by decide) ?_
        show Steps p.tables e below (T197.setTop (mkF m 129 #[.val (.int p0), .val (.int p1), .val (.int p2), .val (.int sz), .val (.int kv), .val (.int (own_b (¬ ((p2 &&& (2 : Int32)) = (0 : Int32))))), .val (.ref b195), .unset] [])) _
        refine XS.iload X197.here hx rfl (hb hby at_129) rfl  ?_
        show Steps p.tables e below (T197.setTop (mkF m 131 #[.val (.int p0), .val (.int p1), .val (.int p2), .val (.int sz), .val (.int kv), .val (.int (own_b (¬ ((p2 &&& (2 : Int32)) = (0 : Int32))))), .val (.ref b195), .unset] [(.int kv)])) _
        refine XS.bipush X197.here hx rfl (hb hby at_131) ?_
        show Steps p.tables e below (T197.setTop (mkF m 133 #[.val (.int p0), .val (.int p1), .val (.int p2), .val (.int sz), .val (.int kv), .val (.int (own_b (¬ ((p2 &&& (2 : Int32)) = (0 : Int32))))), .val (.ref b195), .unset] [(.int (6 : Int32)), (.int kv)])) _
        refine XS.icmpYes X197.here hx rfl (pc0 := 133) (pc' := 141) rfl (hb hby at_133) rfl (flt (own_no hc205 (by decide))).2.2.2 (by decide) (by decide) ?_
        show Steps p.tables e below (T197.setTop (mkF m 141 #[.val (.int p0), .val (.int p1), .val (.int p2), .val (.int sz), .val (.int kv), .val (.int (own_b (¬ ((p2 &&& (2 : Int32)) = (0 : Int32))))), .val (.ref b195), .unset] [])) _
        refine XS.iload X197.here hx rfl (hb hby at_141) rfl  ?_
        show Steps p.tables e below (T197.setTop (mkF m 143 #[.val (.int p0), .val (.int p1), .val (.int p2), .val (.int sz), .val (.int kv), .val (.int (own_b (¬ ((p2 &&& (2 : Int32)) = (0 : Int32))))), .val (.ref b195), .unset] [(.int kv)])) _
        refine XS.iloadN X197.here hx rfl (hb hby at_143) rfl  ?_
        exact kZ)
      have pre374 : ∀ tZ, Steps p.tables e below (T197.setTop (mkF m 152 #[.val (.int p0), .val (.int p1), .val (.int p2), .val (.int sz), .val (.int kv), .val (.int (own_b (¬ ((p2 &&& (2 : Int32)) = (0 : Int32))))), .val (.ref b195), .unset] [(.int (own_b (¬ (kv < sz))))])) tZ → Steps p.tables e below (s₁.setTop (entryFrame m #[(.int p0), (.int p1), (.int p2)] maxLocals)) tZ := fun tZ kZ => pre372 tZ (by
        by_cases hc373 : kv < sz
        ·  -- yes
          show Steps p.tables e below (T197.setTop (mkF m 144 #[.val (.int p0), .val (.int p1), .val (.int p2), .val (.int sz), .val (.int kv), .val (.int (own_b (¬ ((p2 &&& (2 : Int32)) = (0 : Int32))))), .val (.ref b195), .unset] [(.int sz), (.int kv)])) _
          refine XS.icmpYes X197.here hx rfl (pc0 := 144) (pc' := 151) rfl (hb hby at_144) rfl (tlt hc373).1 (by decide) (by decide) ?_
          show Steps p.tables e below (T197.setTop (mkF m 151 #[.val (.int p0), .val (.int p1), .val (.int p2), .val (.int sz), .val (.int kv), .val (.int (own_b (¬ ((p2 &&& (2 : Int32)) = (0 : Int32))))), .val (.ref b195), .unset] [])) _
          refine XS.iconst X197.here hx rfl (hb hby at_151) ?_
          have ekZ : (own_b (¬ (kv < sz))) = (0 : Int32) := by first | (simp only [own_b, eq_true hc373, and_true, true_and, and_false, false_and, or_true, true_or, or_false, false_or, not_true_eq_false, not_false_eq_true, if_true, if_false, reduceIte]; done) | (simp [own_b, hc373]; done)
          rw [ekZ] at kZ
          exact kZ
        ·  -- no
          show Steps p.tables e below (T197.setTop (mkF m 144 #[.val (.int p0), .val (.int p1), .val (.int p2), .val (.int sz), .val (.int kv), .val (.int (own_b (¬ ((p2 &&& (2 : Int32)) = (0 : Int32))))), .val (.ref b195), .unset] [(.int sz), (.int kv)])) _
          refine XS.icmpNo X197.here hx rfl (hb hby at_144) rfl (flt hc373).1 ?_
          show Steps p.tables e below (T197.setTop (mkF m 147 #[.val (.int p0), .val (.int p1), .val (.int p2), .val (.int sz), .val (.int kv), .val (.int (own_b (¬ ((p2 &&& (2 : Int32)) = (0 : Int32))))), .val (.ref b195), .unset] [])) _
          refine XS.iconst X197.here hx rfl (hb hby at_147) ?_
          show Steps p.tables e below (T197.setTop (mkF m 148 #[.val (.int p0), .val (.int p1), .val (.int p2), .val (.int sz), .val (.int kv), .val (.int (own_b (¬ ((p2 &&& (2 : Int32)) = (0 : Int32))))), .val (.ref b195), .unset] [(.int (1 : Int32))])) _
          refine XS.goto X197.here hx rfl (pc0 := 148) (pc' := 152) rfl (hb hby at_148) (by decide) (by decide) ?_
          have ekZ : (own_b (¬ (kv < sz))) = (1 : Int32) := by first | (simp only [own_b, eq_false hc373, and_true, true_and, and_false, false_and, or_true, true_or, or_false, false_or, not_true_eq_false, not_false_eq_true, if_true, if_false, reduceIte]; done) | (simp [own_b, hc373]; done)
          rw [ekZ] at kZ
          exact kZ)
      obtain ⟨cq375, kq375, q375a, q375b, q375c⟩ := isOf hZ rfl f197_0
      obtain ⟨_, _, ⟨T375, L375, k375, n375⟩, -, X375, ⟨Lc375, hQ375, l375, y375, z375⟩, st375⟩ := X197.virtualBack hx (y := (⟨oE, "full", "()Z"⟩ : MethodName)) (z := (⟨oE, "full", "()Z"⟩ : MethodName)) hown (mvT hZ (ow hw 91 rfl)) (mvT hZ (ow hw 92 rfl)) (notFace_of_selects (args := #[]) (mvT hZ (ow hw 94 rfl))) (mvT hZ (ow hw 94 rfl)) (mvT hZ (ow hw 93 rfl)) (by decide) (backOf (W := 0) (rm16 l Z a0 hw [] b195 sz (0 : Int64) T197.heap n0 Z201 f197_2 f197_3) hZ (ow hw 95 rfl) (ow hw 7 rfl) (by decide) (by decide)) q375a q375c (g := (mkF m 156 #[.val (.int p0), .val (.int p1), .val (.int p2), .val (.int sz), .val (.int kv), .val (.int (own_b (¬ ((p2 &&& (2 : Int32)) = (0 : Int32))))), .val (.ref b195), .val (.int (own_b (¬ (kv < sz))))] [(.ref b195)])) rfl (by rw [hml]; rfl) (Steps.refl _) (argsL := []) (rest := []) (lenOf pd8 rfl) rfl (by show 2 * 0 + _ ≤ _; exact Nat.le_of_eq rfl) (hb hby at_156) (fun _ _ => ⟨rfl, rfl, (by decide : 3 + 0 ≤ _), (by decide : 8 + 0 ≤ _)⟩)
      dsimp only [Pt.U, Pt.locs, Pt.cells, Pt.slots] at X375 l375 y375 z375 st375 hQ375
      subst l375 y375 z375
      obtain ⟨rfl, N375q, e375⟩ := hQ375
      have N375 := Fr.app N197 N375q
      obtain ⟨fsZ, hrZ, hrun, hended, hW, hsame⟩ := X375.leave (v := some (.int (1 : Int32))) (fun h => by rw [Bd.returns] at h; cases h)
      refine ⟨_, _, pre374 _ ?_, hrun, hended, _, _, rfl, ?_, ⟨_, rfl⟩, hW, hsame.mono (by decide) (by decide)⟩
      · show Steps p.tables e below (T197.setTop (mkF m 152 #[.val (.int p0), .val (.int p1), .val (.int p2), .val (.int sz), .val (.int kv), .val (.int (own_b (¬ ((p2 &&& (2 : Int32)) = (0 : Int32))))), .val (.ref b195), .unset] [(.int (own_b (¬ (kv < sz))))])) _
        refine XS.istore X197.here hx rfl (hb hby at_152) rfl (l' := #[.val (.int p0), .val (.int p1), .val (.int p2), .val (.int sz), .val (.int kv), .val (.int (own_b (¬ ((p2 &&& (2 : Int32)) = (0 : Int32))))), .val (.ref b195), .val (.int (own_b (¬ (kv < sz))))]) rfl ?_
        show Steps p.tables e below (T197.setTop (mkF m 154 #[.val (.int p0), .val (.int p1), .val (.int p2), .val (.int sz), .val (.int kv), .val (.int (own_b (¬ ((p2 &&& (2 : Int32)) = (0 : Int32))))), .val (.ref b195), .val (.int (own_b (¬ (kv < sz))))] [])) _
        refine XS.aload X197.here hx rfl (hb hby at_154) rfl rfl ?_
        show Steps p.tables e below (T197.setTop (mkF m 156 #[.val (.int p0), .val (.int p1), .val (.int p2), .val (.int sz), .val (.int kv), .val (.int (own_b (¬ ((p2 &&& (2 : Int32)) = (0 : Int32))))), .val (.ref b195), .val (.int (own_b (¬ (kv < sz))))] [(.ref b195)])) _
        refine st375.trans ?_
        show Steps p.tables e below (T375.setTop (mkF m 159 #[.val (.int p0), .val (.int p1), .val (.int p2), .val (.int sz), .val (.int kv), .val (.int (own_b (¬ ((p2 &&& (2 : Int32)) = (0 : Int32))))), .val (.ref b195), .val (.int (own_b (¬ (kv < sz))))] [(.int (own_b (¬ ((0 : Int64) < (sz.toInt64)))))])) _
        refine XS.iload X375.here hx rfl (hb hby at_159) rfl  ?_
        show Steps p.tables e below (T375.setTop (mkF m 161 #[.val (.int p0), .val (.int p1), .val (.int p2), .val (.int sz), .val (.int kv), .val (.int (own_b (¬ ((p2 &&& (2 : Int32)) = (0 : Int32))))), .val (.ref b195), .val (.int (own_b (¬ (kv < sz))))] [(.int (own_b (¬ (kv < sz)))), (.int (own_b (¬ ((0 : Int64) < (sz.toInt64)))))])) _
        refine XS.icmpNo X375.here hx rfl (hb hby at_161) rfl (teq (own_fin 0 hsz (by decide) (own_eqk 0 (own_k0 hkv) hc205 (by decide) (by decide)))).2 ?_
        show Steps p.tables e below (T375.setTop (mkF m 164 #[.val (.int p0), .val (.int p1), .val (.int p2), .val (.int sz), .val (.int kv), .val (.int (own_b (¬ ((p2 &&& (2 : Int32)) = (0 : Int32))))), .val (.ref b195), .val (.int (own_b (¬ (kv < sz))))] [])) _
        refine XS.iconst X375.here hx rfl (hb hby at_164) ?_
        show Steps p.tables e below (T375.setTop (mkF m 165 #[.val (.int p0), .val (.int p1), .val (.int p2), .val (.int sz), .val (.int kv), .val (.int (own_b (¬ ((p2 &&& (2 : Int32)) = (0 : Int32))))), .val (.ref b195), .val (.int (own_b (¬ (kv < sz))))] [(.int (1 : Int32))])) _
        refine XS.goto X375.here hx rfl (pc0 := 165) (pc' := 169) rfl (hb hby at_165) (by decide) (by decide) ?_
        show Steps p.tables e below (T375.setTop (mkF m 169 #[.val (.int p0), .val (.int p1), .val (.int p2), .val (.int sz), .val (.int kv), .val (.int (own_b (¬ ((p2 &&& (2 : Int32)) = (0 : Int32))))), .val (.ref b195), .val (.int (own_b (¬ (kv < sz))))] [(.int (1 : Int32))])) _
        exact retN X375 hx (t := .boolean) Bd.returns (by simp) (hb hby at_169) hrZ
      · show Q0 Z p0 p1 p2 h0 n0 _ T375.heap _
        rw [e375]
        exact ⟨rfl, N375⟩
set_option maxRecDepth 65536 in
set_option maxHeartbeats 40000000 in
theorem comes_1 {Post : Tables → Env → Array Value → State → Outcome → State → Prop} (hpost : ∀ tb e args s v u, (limb_1_1.after args s (.returned v) u = true ∧ limb_1_2.after args s (.returned v) u = true ∧ True) → FrameEnd s (.returned v) u (Jvm.fieldLocs frame_1_writes args s ++ Jvm.arrayLocs frame_1_arrays args s ++ Jvm.staticLocs frame_1_statics s) 16 128 → Post tb e args s (.returned v) u) :
    ArmFor flags0 classFile x code maxLocals ret World_1 tables_1 room_1 Calls_1 rest_1 Pre_1 Post := by
  intro l hfl _ _ p e ha hc hk s m args below hf hA hF happ hP
  obtain ⟨hcalls, hrest, hpre⟩ := hP
  obtain ⟨-, -, -, hnamed, -, -, -, hat⟩ := (Spec.applies_iff hf).mp happ
  obtain ⟨hg, hn⟩ := and_e (Cond.before_iff.mp (show (Jvm.Cond.and given_1 narrow_1).before args s = true from hpre))
  obtain ⟨g1, g2⟩ := and_e hg
  obtain ⟨g3, g4⟩ := and_e g2
  obtain ⟨g5, g6⟩ := and_e g4
  obtain ⟨w0, w1, w2, rfl⟩ : ∃ w0 w1 w2 : Value, args = #[w0, w1, w2] := by
    have hs : args.size = 3 := by simpa [Cond.value, given_1] using g1
    obtain ⟨L⟩ := args
    match L, hs with
    | [w0, w1, w2], _ => exact ⟨w0, w1, w2, rfl⟩
  have hw := fun d (hd : d ∈ tables_1) => atoms_spec (ws := Jvm.Cond.code x code maxLocals ret :: tables_1) hat d (List.mem_cons_of_mem _ hd)
  have hfit : Fit s := fun {y c} hc i hi => by
    obtain ⟨ha, rfl⟩ := Array.getElem?_eq_some_iff.mp hc
    have q := List.all_eq_true.mp ((Array.all_eq_true_iff_forall_mem.mp hF) _ (Array.getElem_mem ha)) i (List.mem_range.mpr hi)
    simpa [Array.getElem?_eq_getElem hi] using q
  obtain ⟨hsets, hown0⟩ := atoms_of _ (rest_1_c_eq ▸ (show rest_1_c.before _ s = true from hrest))
  have hr0 := Cond.before_iff.mp hown0
  obtain ⟨i0, ei0⟩ := is_v g3
  obtain rfl : w0 = (.int i0) := Option.some.inj ei0
  obtain ⟨i1, ei1⟩ := is_v g5
  obtain rfl : w1 = (.int i1) := Option.some.inj ei1
  obtain ⟨i2, ei2⟩ := is_v g6
  obtain rfl : w2 = (.int i2) := Option.some.inj ei2
  have hsi := own_eqI (Cond.before_iff.mp (hsets _ (List.mem_of_getElem? (i := 2) rfl)))
  have Sh := Sta.start hsi (Or.inl (hsets _ (List.mem_of_getElem? (i := 1) rfl)))
  obtain ⟨n, o, h1, h2, h3, _, L, rfl, ⟨rfl, N⟩, hq⟩ := rm0 l s _ hw tables_1 i0 i1 i2  s.heap s.heap.size (Nat.le_refl _) Sh (Old.start s) p e ha hc hk s m _ below hf ((Spec.applies_iff_loose hf).mp happ).1 ⟨rfl, State.Warmed39.refl s, rfl⟩ trivial
  refine ⟨n, _, h1, h2, h3, hpost _ _ _ _ _ _ ⟨Cond.after_iff.mpr rfl, Cond.after_iff.mpr (eq_i res_at (Term.int_eval (1)) rfl), trivial⟩ ⟨hq.1, hq.2.1, (hq.2.2.sift fun y hy => Or.inr (N y hy)).mono (by decide) (by decide)⟩⟩
theorem main_1_1 : Claimed_1_1 := comes_1 fun _ _ _ _ _ _ h hF => ⟨h.1, hF⟩
theorem main_1_2 : Claimed_1_2 := comes_1 fun _ _ _ _ _ _ h hF => ⟨h.2.1, hF⟩
end Jvm.Pilot.@@N@@
namespace Jvm.Pilot.@@N@@
open Jvm Jvm.ClassFile Sem Op Lib Jvm.Free Jvm.Stand Jvm.Pilot.@@N@@.Jvm.D
/-! MADE BY PROGRAM (witnessworld.py) out of the Statement's table words and the real class files: 13 classes; the members and pool entries that the words name. The judged class is class 1, her method 1. -/
namespace start1
open Jvm.ClassFile
def u (s : String) : CpInfo := .utf8 (stringToUtf16 s)
/-- a pool by its gaps: so many unusable entries, then the entry; so many at the end -/
def gap : Nat → List CpInfo → List CpInfo
  | 0, r => r
  | n + 1, r => .unusable :: gap n r
def poolList (es : List (Nat × CpInfo)) (last : Nat) : List CpInfo := es.foldr (fun e r => gap e.1 (e.2 :: r)) (gap last [])
def pool (es : List (Nat × CpInfo)) (last : Nat) : Array CpInfo := ⟨poolList es last⟩
def fileOf (pool : Array CpInfo) (this : Nat) (attrs : Array Attribute := #[]) (ms : Array MethodInfo := #[]) (fl : Nat := 33) (sup : Nat := 0) (ifs : Array Nat := #[]) (fds : Array FieldInfo := #[]) : ClassFile where
  minorVersion := 0
  majorVersion := 65
  constantPool := pool
  accessFlags := fl
  thisClass := this
  superClass := sup
  interfaces := ifs
  fields := fds
  methods := ms
  attributes := attrs
def plain (name : String) (sup : Option ClassId) : Class where
  name := name
  kind := .ordinary
  loader := none
  accessFlags := 33
  super := sup
  interfaces := #[]
  cf := none
  fields := #[]
  methods := #[]
  instanceTypes := #[]
  staticTypes := #[]
  resolved := #[]
  callSites := []
  init := .initialized
  statics := none
  mirror := none

def pool0 : Array CpInfo := pool [(5, u "<init>"), (0, u "()V"), (1, .class_ 10), (1, u "java/lang/Object")] 113

def k0c0 : Code := { maxStack := 0, maxLocals := 1, code := object_method_1_code, exceptionTable := #[], attributes := #[] }
def k0m0 : Method := { name := "<init>", desc := "()V", sig := { parameters := [], returnType := none }, accessFlags := 1, code := some k0c0 }
/-- java/lang/Object -/
def k0 : Class := { plain "java/lang/Object" none with
  accessFlags := 33
  interfaces := #[]
  cf := some (fileOf pool0 8 #[] #[{ accessFlags := 1, nameIndex := 5, descriptorIndex := 6, attributes := #[] }] 33 0 #[] #[])
  fields := #[]
  methods := #[k0m0]
  instanceTypes := #[]
  staticTypes := #[]
  resolved := Array.replicate 124 none
  statics := none }

def pool1 : Array CpInfo := pool [(2, .class_ 4), (1, u "java/lang/Object"), (0, u "<init>"), (0, u "()V"), (0, .integer 2147483647), (0, .methodref 9 10), (0, .class_ 11), (0, .nameAndType 12 13), (0, u "java/lang/Math"), (0, u "max"), (0, u "(II)I"), (0, .class_ 15), (0, u "com/example/portunus/portunus/admission/LastEvents"), (0, .methodref 14 17), (0, .nameAndType 5 18), (0, u "(I)V"), (0, .methodref 14 20), (0, .nameAndType 21 6), (0, u "take"), (0, .methodref 14 23), (0, .nameAndType 24 6), (0, u "markLast"), (0, .methodref 14 26), (0, .nameAndType 27 28), (0, u "full"), (0, u "()Z"), (0, .class_ 30), (0, u "com/example/portunus/portunus/admission/LastEventsFullPinLaw"), (2, u "law"), (0, u "(III)Z")] 3

def k1m0 : Method := { name := "<init>", desc := "()V", sig := { parameters := [], returnType := none }, accessFlags := 1, code := none }
def k1c1 : Code := { maxStack := 3, maxLocals := 8, code := code, exceptionTable := #[], attributes := #[] }
def k1m1 : Method := { name := "law", desc := "(III)Z", sig := { parameters := [.int, .int, .int], returnType := some .boolean }, accessFlags := 9, code := some k1c1 }
/-- com/example/portunus/portunus/admission/LastEventsFullPinLaw -/
def k1 : Class := { plain "com/example/portunus/portunus/admission/LastEventsFullPinLaw" (some 0) with
  accessFlags := 49
  interfaces := #[]
  cf := some (fileOf pool1 29 #[] #[{ accessFlags := 1, nameIndex := 5, descriptorIndex := 6, attributes := #[] }, { accessFlags := 9, nameIndex := 33, descriptorIndex := 34, attributes := #[] }] 49 2 #[] #[])
  fields := #[]
  methods := #[k1m0, k1m1]
  instanceTypes := #[]
  staticTypes := #[]
  resolved := Array.replicate 38 none
  statics := none }

def pool2 : Array CpInfo := pool [(1, .class_ 2), (0, u "java/lang/Math"), (1, .class_ 6), (1, u "java/lang/Object"), (0, u "<init>"), (0, u "()V"), (89, .class_ 100), (1, u "java/lang/Math$RandomNumberGeneratorHolder"), (71, u "negativeZeroFloatBits"), (0, u "J"), (2, u "negativeZeroDoubleBits"), (21, u "max"), (46, u "$assertionsDisabled"), (0, u "Z"), (88, u "(II)I"), (2, u "twoToTheDoubleScaleDown"), (0, u "D"), (4, u "twoToTheDoubleScaleUp"), (9, u "E"), (3, u "PI"), (2, u "TAU"), (2, u "DEGREES_TO_RADIANS"), (0, u "RADIANS_TO_DEGREES")] 94

def k2m0 : Method := { name := "<init>", desc := "()V", sig := { parameters := [], returnType := none }, accessFlags := 2, code := none }
def k2c1 : Code := { maxStack := 2, maxLocals := 2, code := jdk_29_method_65_code, exceptionTable := #[], attributes := #[] }
def k2m1 : Method := { name := "max", desc := "(II)I", sig := { parameters := [.int, .int], returnType := some .int }, accessFlags := 9, code := some k2c1 }
/-- java/lang/Math -/
def k2 : Class := { plain "java/lang/Math" (some 0) with
  accessFlags := 49
  interfaces := #[]
  cf := some (fileOf pool2 1 #[.nestMembers #[98]] #[{ accessFlags := 2, nameIndex := 7, descriptorIndex := 8, attributes := #[] }, { accessFlags := 9, nameIndex := 198, descriptorIndex := 335, attributes := #[] }] 49 4 #[] #[{ accessFlags := 25, nameIndex := 354, descriptorIndex := 339, attributes := #[] }, { accessFlags := 25, nameIndex := 358, descriptorIndex := 339, attributes := #[] }, { accessFlags := 25, nameIndex := 361, descriptorIndex := 339, attributes := #[] }, { accessFlags := 26, nameIndex := 364, descriptorIndex := 339, attributes := #[] }, { accessFlags := 26, nameIndex := 365, descriptorIndex := 339, attributes := #[] }, { accessFlags := 26, nameIndex := 172, descriptorIndex := 173, attributes := #[] }, { accessFlags := 26, nameIndex := 176, descriptorIndex := 173, attributes := #[] }, { accessFlags := 8, nameIndex := 344, descriptorIndex := 339, attributes := #[] }, { accessFlags := 8, nameIndex := 338, descriptorIndex := 339, attributes := #[] }, { accessFlags := 4120, nameIndex := 245, descriptorIndex := 246, attributes := #[] }])
  fields := #[{ name := "E", type := .double, accessFlags := 25, slot := 0, constantValue := 0 }, { name := "PI", type := .double, accessFlags := 25, slot := 1, constantValue := 0 }, { name := "TAU", type := .double, accessFlags := 25, slot := 2, constantValue := 0 }, { name := "DEGREES_TO_RADIANS", type := .double, accessFlags := 26, slot := 3, constantValue := 0 }, { name := "RADIANS_TO_DEGREES", type := .double, accessFlags := 26, slot := 4, constantValue := 0 }, { name := "negativeZeroFloatBits", type := .long, accessFlags := 26, slot := 5, constantValue := 0 }, { name := "negativeZeroDoubleBits", type := .long, accessFlags := 26, slot := 6, constantValue := 0 }, { name := "twoToTheDoubleScaleUp", type := .double, accessFlags := 8, slot := 7, constantValue := 0 }, { name := "twoToTheDoubleScaleDown", type := .double, accessFlags := 8, slot := 8, constantValue := 0 }, { name := "$assertionsDisabled", type := .boolean, accessFlags := 4120, slot := 9, constantValue := 0 }]
  methods := #[k2m0, k2m1]
  instanceTypes := #[]
  staticTypes := #[.double, .double, .double, .double, .double, .long, .long, .double, .double, .boolean]
  resolved := Array.replicate 460 none
  statics := none }

def pool3 : Array CpInfo := pool [(1, .methodref 2 3), (0, .class_ 4), (0, .nameAndType 5 6), (0, u "java/lang/Object"), (0, u "<init>"), (0, u "()V"), (0, .class_ 8), (0, u "java/util/BitSet"), (0, .methodref 7 3), (0, .fieldref 11 12), (0, .class_ 13), (0, .nameAndType 14 15), (0, u "com/example/portunus/portunus/admission/LastEvents"), (0, u "_marks"), (0, u "Ljava/util/BitSet;"), (0, .fieldref 11 17), (0, .nameAndType 18 19), (0, u "_size"), (0, u "I"), (0, .fieldref 11 21), (0, .nameAndType 22 23), (0, u "_taken"), (0, u "J"), (0, .methodref 7 25), (0, .nameAndType 26 27), (0, u "get"), (0, u "(I)Z"), (0, .methodref 7 29), (0, .nameAndType 30 31), (0, u "clear"), (0, u "(I)V"), (0, .fieldref 11 33), (0, .nameAndType 34 19), (0, u "_marked"), (0, .methodref 7 36), (0, .nameAndType 37 31), (0, u "set"), (8, u "take"), (1, u "markLast"), (2, u "full"), (0, u "()Z")] 5

def k3c0 : Code := { maxStack := 3, maxLocals := 2, code := prog_11_method_1_code, exceptionTable := #[], attributes := #[] }
def k3m0 : Method := { name := "<init>", desc := "(I)V", sig := { parameters := [.int], returnType := none }, accessFlags := 0, code := some k3c0 }
def k3c1 : Code := { maxStack := 5, maxLocals := 2, code := prog_11_method_2_code, exceptionTable := #[], attributes := #[] }
def k3m1 : Method := { name := "take", desc := "()V", sig := { parameters := [], returnType := none }, accessFlags := 0, code := some k3c1 }
def k3c2 : Code := { maxStack := 5, maxLocals := 1, code := prog_11_method_3_code, exceptionTable := #[], attributes := #[] }
def k3m2 : Method := { name := "markLast", desc := "()V", sig := { parameters := [], returnType := none }, accessFlags := 0, code := some k3c2 }
def k3c3 : Code := { maxStack := 4, maxLocals := 1, code := prog_11_method_5_code, exceptionTable := #[], attributes := #[] }
def k3m3 : Method := { name := "full", desc := "()Z", sig := { parameters := [], returnType := some .boolean }, accessFlags := 0, code := some k3c3 }
/-- com/example/portunus/portunus/admission/LastEvents -/
def k3 : Class := { plain "com/example/portunus/portunus/admission/LastEvents" (some 0) with
  accessFlags := 32
  interfaces := #[]
  cf := some (fileOf pool3 11 #[] #[{ accessFlags := 0, nameIndex := 5, descriptorIndex := 31, attributes := #[] }, { accessFlags := 0, nameIndex := 46, descriptorIndex := 6, attributes := #[] }, { accessFlags := 0, nameIndex := 48, descriptorIndex := 6, attributes := #[] }, { accessFlags := 0, nameIndex := 51, descriptorIndex := 52, attributes := #[] }] 32 2 #[] #[{ accessFlags := 18, nameIndex := 18, descriptorIndex := 19, attributes := #[] }, { accessFlags := 18, nameIndex := 14, descriptorIndex := 15, attributes := #[] }, { accessFlags := 2, nameIndex := 22, descriptorIndex := 23, attributes := #[] }, { accessFlags := 2, nameIndex := 34, descriptorIndex := 19, attributes := #[] }])
  fields := #[{ name := "_size", type := .int, accessFlags := 18, slot := 0, constantValue := 0 }, { name := "_marks", type := (.object "java/util/BitSet"), accessFlags := 18, slot := 1, constantValue := 0 }, { name := "_taken", type := .long, accessFlags := 2, slot := 2, constantValue := 0 }, { name := "_marked", type := .int, accessFlags := 2, slot := 3, constantValue := 0 }]
  methods := #[k3m0, k3m1, k3m2, k3m3]
  instanceTypes := #[.int, (.object "java/util/BitSet"), .long, .int]
  staticTypes := #[]
  resolved := Array.replicate 58 none
  statics := none }

def pool4 : Array CpInfo := pool [(1, .class_ 2), (0, u "java/lang/Cloneable"), (0, .class_ 4), (0, u "java/lang/Object")] 2

/-- java/lang/Cloneable -/
def k4 : Class := { plain "java/lang/Cloneable" (some 0) with
  accessFlags := 1537
  interfaces := #[]
  cf := some (fileOf pool4 1 #[] #[] 1537 3 #[] #[])
  fields := #[]
  methods := #[]
  instanceTypes := #[]
  staticTypes := #[]
  resolved := Array.replicate 7 none
  statics := none }

def pool5 : Array CpInfo := pool [(1, .class_ 2), (0, u "java/io/Serializable"), (0, .class_ 4), (0, u "java/lang/Object")] 2

/-- java/io/Serializable -/
def k5 : Class := { plain "java/io/Serializable" (some 0) with
  accessFlags := 1537
  interfaces := #[]
  cf := some (fileOf pool5 1 #[] #[] 1537 3 #[] #[])
  fields := #[]
  methods := #[]
  instanceTypes := #[]
  staticTypes := #[]
  resolved := Array.replicate 7 none
  statics := none }

def pool6 : Array CpInfo := pool [(1, .class_ 2), (0, u "java/util/BitSet"), (0, .fieldref 1 4), (0, .nameAndType 5 6), (0, u "$assertionsDisabled"), (0, u "Z"), (0, .fieldref 1 8), (0, .nameAndType 9 10), (0, u "wordsInUse"), (0, u "I"), (0, .fieldref 1 12), (0, .nameAndType 13 14), (0, u "words"), (0, u "[J"), (3, .nameAndType 19 20), (0, u "<init>"), (0, u "()V"), (0, .methodref 22 18), (0, .class_ 23), (0, u "java/lang/Object"), (0, .fieldref 1 25), (0, .nameAndType 26 6), (0, u "sizeIsSticky"), (0, .methodref 1 28), (0, .nameAndType 29 30), (0, u "initWords"), (0, u "(I)V"), (21, .methodref 1 53), (0, .nameAndType 54 55), (0, u "wordIndex"), (0, u "(I)I"), (0, .methodref 1 57), (0, .nameAndType 58 20), (0, u "checkInvariants"), (21, u "get"), (58, .methodref 1 140), (0, .nameAndType 141 30), (0, u "ensureCapacity"), (13, .methodref 1 156), (0, .nameAndType 157 30), (0, u "expandTo"), (0, .methodref 1 159), (0, .nameAndType 160 20), (0, u "recalculateWordsInUse"), (4, .long 18446744073709551615), (3, u "set"), (2, u "clear"), (96, .class_ 270), (0, u "java/util/BitSet$1BitSetSpliterator"), (22, u "serialPersistentFields"), (0, u "[Ljava/io/ObjectStreamField;"), (0, .class_ 296), (0, u "java/lang/Cloneable"), (0, .class_ 298), (0, u "java/io/Serializable"), (0, u "ADDRESS_BITS_PER_WORD"), (2, u "BITS_PER_WORD"), (1, u "BIT_INDEX_MASK"), (1, u "WORD_MASK"), (0, u "J"), (0, u "serialVersionUID"), (42, u "(I)Z")] 65

def k6c0 : Code := { maxStack := 2, maxLocals := 1, code := jdk_92_method_1_code, exceptionTable := #[], attributes := #[] }
def k6m0 : Method := { name := "wordIndex", desc := "(I)I", sig := { parameters := [.int], returnType := some .int }, accessFlags := 10, code := some k6c0 }
def k6c1 : Code := { maxStack := 4, maxLocals := 1, code := jdk_92_method_2_code, exceptionTable := #[], attributes := #[] }
def k6m1 : Method := { name := "checkInvariants", desc := "()V", sig := { parameters := [], returnType := none }, accessFlags := 2, code := some k6c1 }
def k6c2 : Code := { maxStack := 4, maxLocals := 2, code := jdk_92_method_3_code, exceptionTable := #[], attributes := #[] }
def k6m2 : Method := { name := "recalculateWordsInUse", desc := "()V", sig := { parameters := [], returnType := none }, accessFlags := 2, code := some k6c2 }
def k6c3 : Code := { maxStack := 2, maxLocals := 1, code := jdk_92_method_4_code, exceptionTable := #[], attributes := #[] }
def k6m3 : Method := { name := "<init>", desc := "()V", sig := { parameters := [], returnType := none }, accessFlags := 1, code := some k6c3 }
def k6c4 : Code := { maxStack := 3, maxLocals := 2, code := jdk_92_method_6_code, exceptionTable := #[], attributes := #[] }
def k6m4 : Method := { name := "initWords", desc := "(I)V", sig := { parameters := [.int], returnType := none }, accessFlags := 2, code := some k6c4 }
def k6c5 : Code := { maxStack := 3, maxLocals := 3, code := jdk_92_method_14_code, exceptionTable := #[], attributes := #[] }
def k6m5 : Method := { name := "ensureCapacity", desc := "(I)V", sig := { parameters := [.int], returnType := none }, accessFlags := 2, code := some k6c5 }
def k6c6 : Code := { maxStack := 2, maxLocals := 3, code := jdk_92_method_15_code, exceptionTable := #[], attributes := #[] }
def k6m6 : Method := { name := "expandTo", desc := "(I)V", sig := { parameters := [.int], returnType := none }, accessFlags := 2, code := some k6c6 }
def k6c7 : Code := { maxStack := 7, maxLocals := 3, code := jdk_92_method_19_code, exceptionTable := #[], attributes := #[] }
def k6m7 : Method := { name := "set", desc := "(I)V", sig := { parameters := [.int], returnType := none }, accessFlags := 1, code := some k6c7 }
def k6c8 : Code := { maxStack := 8, maxLocals := 3, code := jdk_92_method_23_code, exceptionTable := #[], attributes := #[] }
def k6m8 : Method := { name := "clear", desc := "(I)V", sig := { parameters := [.int], returnType := none }, accessFlags := 1, code := some k6c8 }
def k6c9 : Code := { maxStack := 5, maxLocals := 3, code := jdk_92_method_26_code, exceptionTable := #[], attributes := #[] }
def k6m9 : Method := { name := "get", desc := "(I)Z", sig := { parameters := [.int], returnType := some .boolean }, accessFlags := 1, code := some k6c9 }
/-- java/util/BitSet -/
def k6 : Class := { plain "java/util/BitSet" (some 0) with
  accessFlags := 33
  interfaces := #[4, 5]
  cf := some (fileOf pool6 1 #[.nestMembers #[269]] #[{ accessFlags := 10, nameIndex := 54, descriptorIndex := 55, attributes := #[] }, { accessFlags := 2, nameIndex := 58, descriptorIndex := 20, attributes := #[] }, { accessFlags := 2, nameIndex := 160, descriptorIndex := 20, attributes := #[] }, { accessFlags := 1, nameIndex := 19, descriptorIndex := 20, attributes := #[] }, { accessFlags := 2, nameIndex := 29, descriptorIndex := 30, attributes := #[] }, { accessFlags := 2, nameIndex := 141, descriptorIndex := 30, attributes := #[] }, { accessFlags := 2, nameIndex := 157, descriptorIndex := 30, attributes := #[] }, { accessFlags := 1, nameIndex := 169, descriptorIndex := 30, attributes := #[] }, { accessFlags := 1, nameIndex := 172, descriptorIndex := 30, attributes := #[] }, { accessFlags := 1, nameIndex := 80, descriptorIndex := 351, attributes := #[] }] 33 22 #[295, 297] #[{ accessFlags := 26, nameIndex := 299, descriptorIndex := 10, attributes := #[] }, { accessFlags := 26, nameIndex := 302, descriptorIndex := 10, attributes := #[] }, { accessFlags := 26, nameIndex := 304, descriptorIndex := 10, attributes := #[] }, { accessFlags := 26, nameIndex := 306, descriptorIndex := 307, attributes := #[] }, { accessFlags := 26, nameIndex := 293, descriptorIndex := 294, attributes := #[] }, { accessFlags := 2, nameIndex := 13, descriptorIndex := 14, attributes := #[] }, { accessFlags := 130, nameIndex := 9, descriptorIndex := 10, attributes := #[] }, { accessFlags := 130, nameIndex := 26, descriptorIndex := 6, attributes := #[] }, { accessFlags := 26, nameIndex := 308, descriptorIndex := 307, attributes := #[] }, { accessFlags := 4120, nameIndex := 5, descriptorIndex := 6, attributes := #[] }])
  fields := #[{ name := "ADDRESS_BITS_PER_WORD", type := .int, accessFlags := 26, slot := 0, constantValue := 0 }, { name := "BITS_PER_WORD", type := .int, accessFlags := 26, slot := 1, constantValue := 0 }, { name := "BIT_INDEX_MASK", type := .int, accessFlags := 26, slot := 2, constantValue := 0 }, { name := "WORD_MASK", type := .long, accessFlags := 26, slot := 3, constantValue := 0 }, { name := "serialPersistentFields", type := (.array (.object "java/io/ObjectStreamField")), accessFlags := 26, slot := 4, constantValue := 0 }, { name := "words", type := (.array .long), accessFlags := 2, slot := 0, constantValue := 0 }, { name := "wordsInUse", type := .int, accessFlags := 130, slot := 1, constantValue := 0 }, { name := "sizeIsSticky", type := .boolean, accessFlags := 130, slot := 2, constantValue := 0 }, { name := "serialVersionUID", type := .long, accessFlags := 26, slot := 5, constantValue := 0 }, { name := "$assertionsDisabled", type := .boolean, accessFlags := 4120, slot := 6, constantValue := 0 }]
  methods := #[k6m0, k6m1, k6m2, k6m3, k6m4, k6m5, k6m6, k6m7, k6m8, k6m9]
  instanceTypes := #[(.array .long), .int, .boolean]
  staticTypes := #[.int, .int, .int, .long, (.array (.object "java/io/ObjectStreamField")), .long, .boolean]
  resolved := Array.replicate 417 none
  statics := some 0 }

/-- the primitive byte -/
def k7 : Class := { plain "byte" none with kind := .primitive 'B', accessFlags := 0x411 }
/-- [B -/
def k8 : Class := { plain "[B" (some 0) with kind := .array 7 .byte, interfaces := #[4, 5], accessFlags := 1041 }

/-- the primitive int -/
def k9 : Class := { plain "int" none with kind := .primitive 'I', accessFlags := 0x411 }
/-- [I -/
def k10 : Class := { plain "[I" (some 0) with kind := .array 9 .int, interfaces := #[4, 5], accessFlags := 1041 }

/-- the primitive long -/
def k11 : Class := { plain "long" none with kind := .primitive 'J', accessFlags := 0x411 }
/-- [J -/
def k12 : Class := { plain "[J" (some 0) with kind := .array 11 .long, interfaces := #[4, 5], accessFlags := 1041 }

def heap : Heap := #[{ cls := 6, slots := #[.int 0, .int 0, .int 0, .long 0, .null, .long 0, .int 1], vm := .statics 6 }]
def classes : Array Class := #[k0, k1, k2, k3, k4, k5, k6, k7, k8, k9, k10, k11, k12]
def interned : List (Array UInt16 × Addr) := []
def slotsUsed : Nat := 7
def theMethod : MethodId := ⟨1, 1⟩
def args0 : Array Value := #[.int 5, .int 6, .int 7]
def aboutOver (below : List Frame) : State where
  vm := { classes := classes, interned := interned.toArray }
  heap := heap
  slotsUsed := slotsUsed
  threads := #[{ frames := .invoking theMethod args0 :: below }]
def below0 : List Frame := [.native { method := ⟨0, 0⟩, args := #[] }]
def about1 : State := aboutOver below0
def p0 : Program := .bare "" "" ""
def e0 : Env := launch0.env 0 0 0
theorem w_frames : about1.frames = Frame.invoking theMethod args0 :: below0 := rfl
set_option maxRecDepth 65536 in
theorem w_args : argsFit about1.vm theMethod args0 = true := by decide +kernel
set_option maxRecDepth 65536 in
theorem w_heap : heapFits about1 = true := by decide +kernel
set_option maxRecDepth 65536 in
theorem w_runnable : about1.curStatus? = some .runnable := by decide +kernel
set_option maxRecDepth 65536 in
theorem w_alone : about1.alone = true := by decide +kernel
set_option maxRecDepth 65536 in
theorem w_named : about1.methodNamed? x = some theMethod := by decide +kernel
set_option maxRecDepth 65536 in
theorem w_hears : about1.hears theMethod below0 = true := by decide +kernel
set_option maxRecDepth 65536 in
theorem w_ripe : about1.ripe theMethod args0 below0 = true := by decide +kernel
theorem w_running : about1.status = .running := rfl
set_option maxRecDepth 65536 in
theorem w_room : about1.hasRoom e0.platform room_1 = true :=
  launch0.hasRoom_least _ room_1 (by decide +kernel) (by decide +kernel) (by decide +kernel) (by decide +kernel) (by decide +kernel) (by decide +kernel)
theorem allAtoms_all (ts : List Jvm.Cond) (a : Array Jvm.Value) (st : Jvm.State) : (allAtoms ts).before a st = ts.all (fun c => c.before a st) := by
  induction ts with
  | nil => rfl
  | cons c t ih =>
    show (Jvm.Cond.and c (allAtoms t)).before a st = _
    rw [Jvm.Cond.before_and, ih, List.all_cons]
def words1 : List Jvm.Cond := Jvm.Cond.code x code maxLocals ret :: tables_1
/-- a 'code' word, met by the world's own term for the bytes: nothing is compared byte by byte -/
theorem code_word {y : MethodName} {bytes : ByteArray} {mx : Nat} {rt : Option FieldType} {a : Array Value} {s : State} {m : MethodId} {meth : Method} {c : Code} (h1 : s.methodNamed? y = some m) (h2 : s.vm.method? m = some meth) (h3 : meth.code = some c) (h4 : c.code = bytes)
    (h5 : (c.maxLocals == mx && c.exceptionTable.isEmpty && decide (c.maxStack ≤ mostOperands) && decide (meth.sig.returnType = rt) && !meth.locks && decide (parseMethodDescriptor y.desc = some meth.sig)) = true) : (Jvm.Cond.code y bytes mx rt).before a s = true := by
  simp only [Bool.and_eq_true, beq_iff_eq, Bool.not_eq_true', decide_eq_true_eq] at h5
  obtain ⟨⟨⟨⟨⟨g1, g2⟩, g3⟩, g4⟩, g5⟩, g6⟩ := h5
  simp [Cond.before, Cond.holds, Cond.value, h1, h2, h3, h4, g1, g2, g3, g4, g5, g6]
def isCode : Jvm.Cond → Bool
  | .code _ _ _ _ => true
  | _ => false
theorem all_split {L : List Jvm.Cond} {P : Jvm.Cond → Bool} (h1 : L.all (fun c => isCode c || P c) = true) (h2 : ∀ c ∈ L.filter isCode, P c = true) : L.all P = true := by
  refine List.all_eq_true.mpr fun c hc => ?_
  have h := List.all_eq_true.mp h1 c hc
  rcases Bool.eq_false_or_eq_true (isCode c) with hi | hi
  · exact h2 c (List.mem_filter.mpr ⟨hc, hi⟩)
  · simpa [hi] using h
set_option maxRecDepth 65536 in
theorem w_c0 : (Jvm.Cond.code x code maxLocals ret).before args0 about1 = true := code_word (m := ⟨1, 1⟩) (meth := k1m1) (c := k1c1) (by decide +kernel) rfl rfl rfl (by decide +kernel)
set_option maxRecDepth 65536 in
theorem w_c1 : (Jvm.Cond.code ({ cls := "java/lang/Math", name := "max", desc := "(II)I" } : Jvm.MethodName) jdk_29_method_65_code (2 : Nat) (Option.some Jvm.ClassFile.FieldType.int)).before args0 about1 = true := code_word (m := ⟨2, 1⟩) (meth := k2m1) (c := k2c1) (by decide +kernel) rfl rfl rfl (by decide +kernel)
set_option maxRecDepth 65536 in
theorem w_c2 : (Jvm.Cond.code ({ cls := "com/example/portunus/portunus/admission/LastEvents", name := "<init>", desc := "(I)V" } : Jvm.MethodName) prog_11_method_1_code (2 : Nat) (Option.none : Option Jvm.ClassFile.FieldType)).before args0 about1 = true := code_word (m := ⟨3, 0⟩) (meth := k3m0) (c := k3c0) (by decide +kernel) rfl rfl rfl (by decide +kernel)
set_option maxRecDepth 65536 in
theorem w_c3 : (Jvm.Cond.code ({ cls := "java/lang/Object", name := "<init>", desc := "()V" } : Jvm.MethodName) object_method_1_code (1 : Nat) (Option.none : Option Jvm.ClassFile.FieldType)).before args0 about1 = true := code_word (m := ⟨0, 0⟩) (meth := k0m0) (c := k0c0) (by decide +kernel) rfl rfl rfl (by decide +kernel)
set_option maxRecDepth 65536 in
theorem w_c4 : (Jvm.Cond.code ({ cls := "java/util/BitSet", name := "<init>", desc := "()V" } : Jvm.MethodName) jdk_92_method_4_code (1 : Nat) (Option.none : Option Jvm.ClassFile.FieldType)).before args0 about1 = true := code_word (m := ⟨6, 3⟩) (meth := k6m3) (c := k6c3) (by decide +kernel) rfl rfl rfl (by decide +kernel)
set_option maxRecDepth 65536 in
theorem w_c5 : (Jvm.Cond.code ({ cls := "java/util/BitSet", name := "initWords", desc := "(I)V" } : Jvm.MethodName) jdk_92_method_6_code (2 : Nat) (Option.none : Option Jvm.ClassFile.FieldType)).before args0 about1 = true := code_word (m := ⟨6, 4⟩) (meth := k6m4) (c := k6c4) (by decide +kernel) rfl rfl rfl (by decide +kernel)
set_option maxRecDepth 65536 in
theorem w_c6 : (Jvm.Cond.code ({ cls := "java/util/BitSet", name := "wordIndex", desc := "(I)I" } : Jvm.MethodName) jdk_92_method_1_code (1 : Nat) (Option.some Jvm.ClassFile.FieldType.int)).before args0 about1 = true := code_word (m := ⟨6, 0⟩) (meth := k6m0) (c := k6c0) (by decide +kernel) rfl rfl rfl (by decide +kernel)
set_option maxRecDepth 65536 in
theorem w_c7 : (Jvm.Cond.code ({ cls := "com/example/portunus/portunus/admission/LastEvents", name := "take", desc := "()V" } : Jvm.MethodName) prog_11_method_2_code (2 : Nat) (Option.none : Option Jvm.ClassFile.FieldType)).before args0 about1 = true := code_word (m := ⟨3, 1⟩) (meth := k3m1) (c := k3c1) (by decide +kernel) rfl rfl rfl (by decide +kernel)
set_option maxRecDepth 65536 in
theorem w_c8 : (Jvm.Cond.code ({ cls := "java/util/BitSet", name := "get", desc := "(I)Z" } : Jvm.MethodName) jdk_92_method_26_code (3 : Nat) (Option.some Jvm.ClassFile.FieldType.boolean)).before args0 about1 = true := code_word (m := ⟨6, 9⟩) (meth := k6m9) (c := k6c9) (by decide +kernel) rfl rfl rfl (by decide +kernel)
set_option maxRecDepth 65536 in
theorem w_c9 : (Jvm.Cond.code ({ cls := "java/util/BitSet", name := "checkInvariants", desc := "()V" } : Jvm.MethodName) jdk_92_method_2_code (1 : Nat) (Option.none : Option Jvm.ClassFile.FieldType)).before args0 about1 = true := code_word (m := ⟨6, 1⟩) (meth := k6m1) (c := k6c1) (by decide +kernel) rfl rfl rfl (by decide +kernel)
set_option maxRecDepth 65536 in
theorem w_c10 : (Jvm.Cond.code ({ cls := "com/example/portunus/portunus/admission/LastEvents", name := "markLast", desc := "()V" } : Jvm.MethodName) prog_11_method_3_code (1 : Nat) (Option.none : Option Jvm.ClassFile.FieldType)).before args0 about1 = true := code_word (m := ⟨3, 2⟩) (meth := k3m2) (c := k3c2) (by decide +kernel) rfl rfl rfl (by decide +kernel)
set_option maxRecDepth 65536 in
theorem w_c11 : (Jvm.Cond.code ({ cls := "java/util/BitSet", name := "set", desc := "(I)V" } : Jvm.MethodName) jdk_92_method_19_code (3 : Nat) (Option.none : Option Jvm.ClassFile.FieldType)).before args0 about1 = true := code_word (m := ⟨6, 7⟩) (meth := k6m7) (c := k6c7) (by decide +kernel) rfl rfl rfl (by decide +kernel)
set_option maxRecDepth 65536 in
theorem w_c12 : (Jvm.Cond.code ({ cls := "java/util/BitSet", name := "expandTo", desc := "(I)V" } : Jvm.MethodName) jdk_92_method_15_code (3 : Nat) (Option.none : Option Jvm.ClassFile.FieldType)).before args0 about1 = true := code_word (m := ⟨6, 6⟩) (meth := k6m6) (c := k6c6) (by decide +kernel) rfl rfl rfl (by decide +kernel)
set_option maxRecDepth 65536 in
theorem w_c13 : (Jvm.Cond.code ({ cls := "java/util/BitSet", name := "ensureCapacity", desc := "(I)V" } : Jvm.MethodName) jdk_92_method_14_code (3 : Nat) (Option.none : Option Jvm.ClassFile.FieldType)).before args0 about1 = true := code_word (m := ⟨6, 5⟩) (meth := k6m5) (c := k6c5) (by decide +kernel) rfl rfl rfl (by decide +kernel)
set_option maxRecDepth 65536 in
theorem w_c14 : (Jvm.Cond.code ({ cls := "java/util/BitSet", name := "clear", desc := "(I)V" } : Jvm.MethodName) jdk_92_method_23_code (3 : Nat) (Option.none : Option Jvm.ClassFile.FieldType)).before args0 about1 = true := code_word (m := ⟨6, 8⟩) (meth := k6m8) (c := k6c8) (by decide +kernel) rfl rfl rfl (by decide +kernel)
set_option maxRecDepth 65536 in
theorem w_c15 : (Jvm.Cond.code ({ cls := "java/util/BitSet", name := "recalculateWordsInUse", desc := "()V" } : Jvm.MethodName) jdk_92_method_3_code (2 : Nat) (Option.none : Option Jvm.ClassFile.FieldType)).before args0 about1 = true := code_word (m := ⟨6, 2⟩) (meth := k6m2) (c := k6c2) (by decide +kernel) rfl rfl rfl (by decide +kernel)
set_option maxRecDepth 65536 in
theorem w_c16 : (Jvm.Cond.code ({ cls := "com/example/portunus/portunus/admission/LastEvents", name := "full", desc := "()Z" } : Jvm.MethodName) prog_11_method_5_code (1 : Nat) (Option.some Jvm.ClassFile.FieldType.boolean)).before args0 about1 = true := code_word (m := ⟨3, 3⟩) (meth := k3m3) (c := k3c3) (by decide +kernel) rfl rfl rfl (by decide +kernel)
def codes1 : List Jvm.Cond := [Jvm.Cond.code x code maxLocals ret, Jvm.Cond.code ({ cls := "java/lang/Math", name := "max", desc := "(II)I" } : Jvm.MethodName) jdk_29_method_65_code (2 : Nat) (Option.some Jvm.ClassFile.FieldType.int), Jvm.Cond.code ({ cls := "com/example/portunus/portunus/admission/LastEvents", name := "<init>", desc := "(I)V" } : Jvm.MethodName) prog_11_method_1_code (2 : Nat) (Option.none : Option Jvm.ClassFile.FieldType), Jvm.Cond.code ({ cls := "java/lang/Object", name := "<init>", desc := "()V" } : Jvm.MethodName) object_method_1_code (1 : Nat) (Option.none : Option Jvm.ClassFile.FieldType), Jvm.Cond.code ({ cls := "java/util/BitSet", name := "<init>", desc := "()V" } : Jvm.MethodName) jdk_92_method_4_code (1 : Nat) (Option.none : Option Jvm.ClassFile.FieldType), Jvm.Cond.code ({ cls := "java/util/BitSet", name := "initWords", desc := "(I)V" } : Jvm.MethodName) jdk_92_method_6_code (2 : Nat) (Option.none : Option Jvm.ClassFile.FieldType), Jvm.Cond.code ({ cls := "java/util/BitSet", name := "wordIndex", desc := "(I)I" } : Jvm.MethodName) jdk_92_method_1_code (1 : Nat) (Option.some Jvm.ClassFile.FieldType.int), Jvm.Cond.code ({ cls := "com/example/portunus/portunus/admission/LastEvents", name := "take", desc := "()V" } : Jvm.MethodName) prog_11_method_2_code (2 : Nat) (Option.none : Option Jvm.ClassFile.FieldType), Jvm.Cond.code ({ cls := "java/util/BitSet", name := "get", desc := "(I)Z" } : Jvm.MethodName) jdk_92_method_26_code (3 : Nat) (Option.some Jvm.ClassFile.FieldType.boolean), Jvm.Cond.code ({ cls := "java/util/BitSet", name := "checkInvariants", desc := "()V" } : Jvm.MethodName) jdk_92_method_2_code (1 : Nat) (Option.none : Option Jvm.ClassFile.FieldType), Jvm.Cond.code ({ cls := "com/example/portunus/portunus/admission/LastEvents", name := "markLast", desc := "()V" } : Jvm.MethodName) prog_11_method_3_code (1 : Nat) (Option.none : Option Jvm.ClassFile.FieldType), Jvm.Cond.code ({ cls := "java/util/BitSet", name := "set", desc := "(I)V" } : Jvm.MethodName) jdk_92_method_19_code (3 : Nat) (Option.none : Option Jvm.ClassFile.FieldType), Jvm.Cond.code ({ cls := "java/util/BitSet", name := "expandTo", desc := "(I)V" } : Jvm.MethodName) jdk_92_method_15_code (3 : Nat) (Option.none : Option Jvm.ClassFile.FieldType), Jvm.Cond.code ({ cls := "java/util/BitSet", name := "ensureCapacity", desc := "(I)V" } : Jvm.MethodName) jdk_92_method_14_code (3 : Nat) (Option.none : Option Jvm.ClassFile.FieldType), Jvm.Cond.code ({ cls := "java/util/BitSet", name := "clear", desc := "(I)V" } : Jvm.MethodName) jdk_92_method_23_code (3 : Nat) (Option.none : Option Jvm.ClassFile.FieldType), Jvm.Cond.code ({ cls := "java/util/BitSet", name := "recalculateWordsInUse", desc := "()V" } : Jvm.MethodName) jdk_92_method_3_code (2 : Nat) (Option.none : Option Jvm.ClassFile.FieldType), Jvm.Cond.code ({ cls := "com/example/portunus/portunus/admission/LastEvents", name := "full", desc := "()Z" } : Jvm.MethodName) prog_11_method_5_code (1 : Nat) (Option.some Jvm.ClassFile.FieldType.boolean)]
set_option maxRecDepth 65536 in
theorem codes_eq : words1.filter isCode = codes1 := rfl
theorem w_codes : ∀ c ∈ words1.filter isCode, c.before args0 about1 = true := by
  rw [codes_eq]
  intro c hc
  simp only [codes1, List.mem_cons, List.not_mem_nil, or_false] at hc
  rcases hc with rfl | rfl | rfl | rfl | rfl | rfl | rfl | rfl | rfl | rfl | rfl | rfl | rfl | rfl | rfl | rfl | rfl
  · exact w_c0
  · exact w_c1
  · exact w_c2
  · exact w_c3
  · exact w_c4
  · exact w_c5
  · exact w_c6
  · exact w_c7
  · exact w_c8
  · exact w_c9
  · exact w_c10
  · exact w_c11
  · exact w_c12
  · exact w_c13
  · exact w_c14
  · exact w_c15
  · exact w_c16
set_option maxRecDepth 65536 in
theorem w_t1 : (words1.take 24).all (fun c => isCode c || c.before args0 about1) = true := by decide +kernel
set_option maxRecDepth 65536 in
theorem w_t2 : ((words1.drop 24).take 24).all (fun c => isCode c || c.before args0 about1) = true := by decide +kernel
set_option maxRecDepth 65536 in
theorem w_t3 : (((words1.drop 24).drop 24).take 24).all (fun c => isCode c || c.before args0 about1) = true := by decide +kernel
set_option maxRecDepth 65536 in
theorem w_t4 : ((((words1.drop 24).drop 24).drop 24).take 24).all (fun c => isCode c || c.before args0 about1) = true := by decide +kernel
set_option maxRecDepth 65536 in
theorem w_t5 : ((((words1.drop 24).drop 24).drop 24).drop 24).all (fun c => isCode c || c.before args0 about1) = true := by decide +kernel
theorem w_tables : (allAtoms (Jvm.Cond.code x code maxLocals ret :: tables_1)).before args0 about1 = true := by
  rw [allAtoms_all]
  show words1.all (fun c => c.before args0 about1) = true
  refine all_split ?_ w_codes
  rw [← List.take_append_drop 24 words1, List.all_append, w_t1, ← List.take_append_drop 24 (words1.drop 24), List.all_append, w_t2, ← List.take_append_drop 24 ((words1.drop 24).drop 24), List.all_append, w_t3, ← List.take_append_drop 24 (((words1.drop 24).drop 24).drop 24), List.all_append, w_t4, w_t5]
  rfl
set_option maxRecDepth 65536 in
theorem w_rest : rest_1_c.before args0 about1 = true := by decide +kernel
set_option maxRecDepth 65536 in
theorem w_case : (Jvm.Cond.and given_1 narrow_1).before args0 about1 = true := by decide +kernel
theorem w_applies : (headSpec (Jvm.Cond.code x code maxLocals ret :: tables_1) room_1).applies x e0.platform about1 = true :=
  (Spec.applies_iff w_frames).mpr ⟨w_running, w_runnable, w_alone, w_named, w_hears, w_ripe, w_room, w_tables⟩
theorem atStart : AtStart classFile x code maxLocals ret World_1 tables_1 room_1 Calls_1 rest_1 Pre_1 launch0 p0 e0 about1 theMethod args0 below0 :=
  ⟨lists_1, trivial, launch0.admits_env _ _ _, launch0.least_env, fairChoices_fair.cas, fairChoices_fair.clock, w_frames, w_args, w_heap, w_applies, trivial, w_rest, w_case⟩
end start1
theorem witness_1 : WitnessClaimed_1 := ⟨start1.p0, start1.e0, start1.about1, start1.theMethod, start1.args0, start1.below0, start1.atStart⟩
end Jvm.Pilot.@@N@@
