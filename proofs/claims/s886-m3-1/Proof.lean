import JvmDerived
import JvmDerived.Pilot.@@N@@Statement
import JvmDerived.Pilot.@@N@@Code
set_option linter.unusedVariables false
set_option linter.unusedSimpArgs false
namespace Jvm.RoadKit
open Sem ClassFile Op Lib Jvm.Stand Jvm.Free Jvm.LawKit
section New
variable {p : Program} {l : Launch} {e : Env} {R : Room} {s : State} {m : MethodId} {args : Array Value} {below : List Frame} {meth : Method} {c : Code} {T : State} {locs : List Loc} {cells slots : Nat}
theorem retI (X : Stand p l e R s m args below meth c T locs cells slots) (hx : p.tables.exec = Jvm.exec) {pc : Nat} {Ls : Array Slot} {z : Int32} {rest : List Value} (hret : meth.sig.returnType = some .int) (hd : decode c.code pc = .ok (.ireturn, 1)) {fs : List Frame}
    (hl : ∀ (f : JFrame) (acts : List Action), f.method = m → f.locked = none → f.entered = [] → (doReturn e (T.setTop f) acts (some (.int z))).1 = T.setFrames fs) : Steps p.tables e below (T.setTop (mkF m pc Ls (.int z :: rest))) (T.setFrames fs) := by
  have hm' : T.vm.method? m = some meth := X.method'
  have hn : narrow .int (.int z) = .int z := rfl
  show Steps p.tables e below (T.setTop { method := m, pc := pc, locals := Ls, stack := _ :: rest, locked := none }) _
  jvm_step X.here [X.here.top, hx, hd, hm', hret, hn]
  first | (intro acts; rw [hl _ acts rfl rfl rfl]) | rw [hl _ _ rfl rfl rfl]
  exact Steps.refl _
end New
end Jvm.RoadKit
namespace Jvm.Pilot.@@N@@
open Jvm Jvm.ClassFile Sem Op Lib Jvm.Free Jvm.Stand Jvm.LawKit Jvm.RoadKit Bundle Jvm.Pilot.@@N@@.Jvm.D
theorem ow {Z : State} {a0 : Array Value} (hw : ∀ d ∈ tables_1, d.before a0 Z = true) (i : Nat) {d : Jvm.Cond} (h : tables_1[i]? = some d) : d.before a0 Z = true := hw _ (List.mem_of_getElem? h)
def own_b (P : Prop) [Decidable P] : Int32 := if P then 1 else 0
theorem own_b_t {P : Prop} [Decidable P] (h : P) : own_b P = 1 := if_pos h
theorem own_b_f {P : Prop} [Decidable P] (h : ¬ P) : own_b P = 0 := if_neg h
theorem own_b_nz {P : Prop} [Decidable P] (h : P) : ¬ (own_b P = (0 : Int32)) := by rw [own_b_t h]; decide
theorem own_b_nar (P : Prop) [Decidable P] : nar .boolean (own_b P) = own_b P := by
  by_cases h : P
  · rw [own_b_t h]; rfl
  · rw [own_b_f h]; rfl
theorem own_sel {Z s : State} {a0 args : Array Value} {y : MethodName} {n : Nat} (hZ : Z.Warmed39 s.vm) (wi : (Jvm.Cond.instantiable y.cls n).before a0 Z = true) (wp : (Jvm.Cond.privateMethod y).before a0 Z = true) (wm : (Jvm.Cond.instanceMethod y).before a0 Z = true) (hy : y.cls ≠ "java/lang/invoke/MethodHandle" ∧ y.cls ≠ "java/lang/invoke/VarHandle") : (Jvm.Cond.selects y.cls y y).before args s = true := by
  have wi' : (Jvm.Cond.instantiable y.cls n).before args s = true := mvT hZ wi
  obtain ⟨c, k, h1, h2, h3, h4, -⟩ := Cond.instantiable_spec wi'
  have h5 : k.isInterface = false := by
    cases hq : k.isInterface with
    | false => rfl
    | true => rw [hq] at h4; simp at h4
  exact Jvm.Stand.selects_self_of_private h1 h2 h5 (Cond.privateMethod_at (mvP hZ wp (args := args))) (mvT hZ wm) hy
theorem own_nf {s : State} {args : Array Value} {C : String} {y y' : MethodName} (w : (Jvm.Cond.selects C y' y').before args s = true) (e : y'.cls = y.cls) : NotFace s y := fun r0 h0 => by
  obtain ⟨c2, r2, m2, q1, q2, q3, q4, kP, hkP, hkPi⟩ := Cond.selects_spec w
  have h1 := findClass_of_methodNamed h0
  have h2 := findClass_of_methodNamed q3
  rw [e] at h2
  have h3 := Option.some.inj (h1.symm.trans h2)
  exact ⟨kP, by rw [h3]; exact hkP, hkPi⟩
theorem own_selN {Z s : State} {a0 args : Array Value} {y : MethodName} (hZ : Z.Warmed39 s.vm) (nf : NotFace s y) (wp : (Jvm.Cond.privateMethod y).before a0 Z = true) (wm : (Jvm.Cond.instanceMethod y).before a0 Z = true) (hy : y.cls ≠ "java/lang/invoke/MethodHandle" ∧ y.cls ≠ "java/lang/invoke/VarHandle") : (Jvm.Cond.selects y.cls y y).before args s = true := by
  have wm' : (Jvm.Cond.instanceMethod y).before args s = true := mvT hZ wm
  obtain ⟨mk, methM, hnamed, -⟩ := Cond.instanceMethod_spec wm'
  obtain ⟨k, hk, hki⟩ := nf mk hnamed
  exact Jvm.Stand.selects_self_of_private (findClass_of_methodNamed hnamed) hk hki (Cond.privateMethod_at (mvP hZ wp (args := args))) wm' hy
theorem own_b01 (P : Prop) [Decidable P] : own_b P = (0 : Int32) ∨ own_b P = (1 : Int32) := by
  by_cases h : P
  · exact Or.inr (own_b_t h)
  · exact Or.inl (own_b_f h)
theorem own_b_iff {P : Prop} [Decidable P] : own_b P = (0 : Int32) ↔ ¬ P := ⟨fun q h => own_b_nz h q, own_b_f⟩
abbrev oR : String := "com/example/portunus/portunus/policy/Run"
abbrev oW : String := "com/example/portunus/portunus/policy/WaitingTask"
abbrev oL : String := "com/example/portunus/portunus/policy/RunHasOtherPinLaw"
def own_da (Z : State) (h : Heap) (a : Addr) : Prop := ∃ c : Cell, Arr Z h a c .double ∧ c.slots.size = 8
theorem own_da_ext {Z : State} {h h' : Heap} {a : Addr} (F : own_da Z h a) (E : Ext h h') : own_da Z h' a := by obtain ⟨c, A, q⟩ := F; exact ⟨c, A.ext E, q⟩
theorem own_da_other {Z : State} {h h' : Heap} {a b : Addr} {sl : Nat} {v : Value} (F : own_da Z h b) (W : Wr h h' a sl v) (q : b ≠ a) : own_da Z h' b := by obtain ⟨c, A, r⟩ := F; exact ⟨c, A.other W q, r⟩
theorem own_da_keep {Z : State} {h h' : Heap} {a : Addr} {ws : List Addr} (F : own_da Z h a) (K : Keep h h' ws) (q : a ∉ ws) : own_da Z h' a := by obtain ⟨c, A, r⟩ := F; exact ⟨c, ⟨K.2.1 a c A.1 q, A.2⟩, r⟩
theorem own_da_lt {Z : State} {h : Heap} {a : Addr} (F : own_da Z h a) : a < h.size := by obtain ⟨c, A, r⟩ := F; exact A.lt
theorem own_nul {Z : State} {h h' : Heap} {a : Addr} {k : ClassId} {ty : FieldType} {z : Int32} {sl : Nat} (F : Arv Z h a k ty z [] .null) (W : Wr h h' a sl .null) : Arv Z h' a k ty z [] .null := by
  obtain ⟨c, A, q1, S, q3, H, G⟩ := F
  refine ⟨_, A.same W, q1, by rw [sz_set]; exact S, q3, fun x hx => ?_, fun x hx => by rw [sz_set] at hx; exact G x hx⟩
  rw [sz_set] at hx
  by_cases u : sl = x
  · subst u; simp [Cell.setSlot, hx]
  · have := H x hx
    simp only [Cell.setSlot]
    rw [Array.getElem?_setIfInBounds_ne u]; exact this
theorem own_sl (x : Int32) : ¬ ((x &&& (7 : Int32)) < 0) ∧ (x &&& (7 : Int32)) < (8 : Int32) := by
  have h1 := c_mask x 7 3 (by decide) (by decide)
  have e0 : (0 : Int32).toInt = 0 := by decide
  have e8 : (8 : Int32).toInt = 8 := by decide
  rw [Int32.lt_iff_toInt_lt, Int32.lt_iff_toInt_lt, h1, e0, e8]
  omega
theorem own_in8 {c : Cell} (x : Int32) (h : c.slots.size = 8) : ¬ ((x &&& (7 : Int32)) < 0 ∨ c.slots.size ≤ (x &&& (7 : Int32)).toNatClampNeg) := by
  have h1 := c_mask x 7 3 (by decide) (by decide)
  have e0 : (0 : Int32).toInt = 0 := by decide
  rw [Int32.lt_iff_toInt_lt, h]
  simp only [Int32.toNatClampNeg]
  rw [h1, e0]
  omega
theorem own_c3 {k : Int32} (h0 : ¬ (k < (0 : Int32))) (h2 : ¬ ((2 : Int32) < k)) : k = (0 : Int32) ∨ k = (1 : Int32) ∨ k = (2 : Int32) := by
  have e0 : (0 : Int32).toInt = 0 := by decide
  have e2 : (2 : Int32).toInt = 2 := by decide
  rw [Int32.lt_iff_toInt_lt, e0] at h0
  rw [Int32.lt_iff_toInt_lt, e2] at h2
  have hz : k.toInt = 0 ∨ k.toInt = 1 ∨ k.toInt = 2 := by omega
  rcases hz with hz | hz | hz
  · exact Or.inl (Int32.toInt_inj.mp (hz.trans (by decide)))
  · exact Or.inr (Or.inl (Int32.toInt_inj.mp (hz.trans (by decide))))
  · exact Or.inr (Or.inr (Int32.toInt_inj.mp (hz.trans (by decide))))
theorem own_a4 {x k : Int32} (h : k = (x &&& (3 : Int32))) : k = (0 : Int32) ∨ k = (1 : Int32) ∨ k = (2 : Int32) ∨ k = (3 : Int32) := by
  have h1 := c_mask x 3 2 (by decide) (by decide)
  rw [← h] at h1
  have hz : k.toInt = 0 ∨ k.toInt = 1 ∨ k.toInt = 2 ∨ k.toInt = 3 := by omega
  rcases hz with hz | hz | hz | hz
  · exact Or.inl (Int32.toInt_inj.mp (hz.trans (by decide)))
  · exact Or.inr (Or.inl (Int32.toInt_inj.mp (hz.trans (by decide))))
  · exact Or.inr (Or.inr (Or.inl (Int32.toInt_inj.mp (hz.trans (by decide)))))
  · exact Or.inr (Or.inr (Or.inr (Int32.toInt_inj.mp (hz.trans (by decide)))))
theorem own_rem (x : Int32) : ¬ (((x &&& (2147483647 : Int32)) % (3 : Int32)) < (0 : Int32)) ∧ ¬ ((2 : Int32) < ((x &&& (2147483647 : Int32)) % (3 : Int32))) := by
  have h1 := c_mask x 2147483647 31 (by decide) (by decide)
  have h2 := (c_irem (x &&& 2147483647) 3 3 (by decide)).1 (by rw [h1]; omega)
  have e0 : (0 : Int32).toInt = 0 := by decide
  have e2 : (2 : Int32).toInt = 2 := by decide
  rw [Int32.lt_iff_toInt_lt, Int32.lt_iff_toInt_lt, e0, e2, h2]
  omega
theorem own_min {x a m : Int32} (h : m = (if a < x then a else x)) (hx : ¬ (x < (0 : Int32)) ∧ ¬ ((2 : Int32) < x)) (ha : ¬ (a < (0 : Int32))) : ¬ (m < (0 : Int32)) ∧ ¬ ((2 : Int32) < m) ∧ ¬ (a < m) := by
  have e0 : (0 : Int32).toInt = 0 := by decide
  have e2 : (2 : Int32).toInt = 2 := by decide
  obtain ⟨h1, h2⟩ := hx
  by_cases q : a < x
  · rw [if_pos q] at h; subst h
    rw [Int32.lt_iff_toInt_lt] at *
    rw [Int32.lt_iff_toInt_lt, Int32.lt_iff_toInt_lt]
    omega
  · rw [if_neg q] at h; subst h
    exact ⟨h1, h2, q⟩
theorem own_lt12 {k : Int32} (h : k < (1 : Int32)) : k < (2 : Int32) := by
  have e1 : (1 : Int32).toInt = 1 := by decide
  have e2 : (2 : Int32).toInt = 2 := by decide
  rw [Int32.lt_iff_toInt_lt] at *
  omega
def own_pl (ls k : Int32) : Int32 := if ls = (0 : Int32) then ls else ls + k
def own_ps (ls sz k : Int32) : Int32 := if ls = (0 : Int32) then sz - k else sz
theorem own_two (x : Int32) : x + (2 : Int32) = (x + (1 : Int32)) + (1 : Int32) := by rw [Int32.add_assoc]; rfl
theorem own_twos (x : Int32) : x - (2 : Int32) = (x - (1 : Int32)) - (1 : Int32) := by
  have h1 := c_isub x 2
  have h2 := c_isub x 1
  have h3 := c_isub (x - 1) 1
  have r1 := rng32 (x - 2)
  have r2 := rng32 (x - 1 - 1)
  have e1 : (1 : Int32).toInt = 1 := by decide
  have e2 : (2 : Int32).toInt = 2 := by decide
  exact Int32.toInt_inj.mp (by omega)
theorem own_k0 {k : Int32} (hk : k = (0 : Int32) ∨ k = (1 : Int32) ∨ k = (2 : Int32)) (h : k < (1 : Int32)) : k = (0 : Int32) := by
  rcases hk with rfl | rfl | rfl
  · rfl
  · exact absurd h (by decide)
  · exact absurd h (by decide)
theorem own_k1 {k : Int32} (hk : k = (0 : Int32) ∨ k = (1 : Int32) ∨ k = (2 : Int32)) (h : ¬ k < (1 : Int32)) (h2 : k < (2 : Int32)) : k = (1 : Int32) := by
  rcases hk with rfl | rfl | rfl
  · exact absurd (by decide) h
  · rfl
  · exact absurd h2 (by decide)
theorem own_k2 {k : Int32} (hk : k = (0 : Int32) ∨ k = (1 : Int32) ∨ k = (2 : Int32)) (h : ¬ k < (1 : Int32)) (h2 : ¬ k < (2 : Int32)) : k = (2 : Int32) := by
  rcases hk with rfl | rfl | rfl
  · exact absurd (by decide) h
  · exact absurd (by decide) h2
  · rfl
theorem own_nn {m a : Int32} (hk : m = (0 : Int32) ∨ m = (1 : Int32) ∨ m = (2 : Int32)) (h : ¬ a < m) (h0 : ¬ a < (0 : Int32)) : ¬ (a - m) < (0 : Int32) := by
  have h1 := c_isub a m
  have r := rng32 (a - m)
  have ra := rng32 a
  have e0 : (0 : Int32).toInt = 0 := by decide
  have e1 : (1 : Int32).toInt = 1 := by decide
  have e2 : (2 : Int32).toInt = 2 := by decide
  have hm : m.toInt = 0 ∨ m.toInt = 1 ∨ m.toInt = 2 := by rcases hk with rfl | rfl | rfl <;> decide
  rw [Int32.lt_iff_toInt_lt] at *
  omega
theorem own_nz1 {m : Int32} (hk : m = (0 : Int32) ∨ m = (1 : Int32) ∨ m = (2 : Int32)) : ¬ ((((0 : Int32) + m) + (1 : Int32)) = (0 : Int32)) := by rcases hk with rfl | rfl | rfl <;> decide
theorem own_fin_p {a m n : Int32} (ha : a = (0 : Int32) ∨ a = (1 : Int32) ∨ a = (2 : Int32) ∨ a = (3 : Int32)) (hm : m = (0 : Int32) ∨ m = (1 : Int32) ∨ m = (2 : Int32)) (hn : n = (0 : Int32) ∨ n = (1 : Int32) ∨ n = (2 : Int32)) (h1 : ¬ a < m) (h2 : ¬ (a - m) < n) : own_b (((own_pl (0 : Int32) n) + m) < (own_ps (0 : Int32) a n)) = own_b ((0 : Int32) < ((a - m) - n)) := by
  rcases ha with rfl | rfl | rfl | rfl <;> rcases hm with rfl | rfl | rfl <;> rcases hn with rfl | rfl | rfl <;> first | decide | exact absurd (by decide) h1 | exact absurd (by decide) h2
theorem own_fin_m {a m n : Int32} (ha : a = (0 : Int32) ∨ a = (1 : Int32) ∨ a = (2 : Int32) ∨ a = (3 : Int32)) (hm : m = (0 : Int32) ∨ m = (1 : Int32) ∨ m = (2 : Int32)) (hn : n = (0 : Int32) ∨ n = (1 : Int32) ∨ n = (2 : Int32)) (h1 : ¬ a < m) (h2 : ¬ (a - m) < n) : own_b ((own_pl ((0 : Int32) + m) n) < (own_ps ((0 : Int32) + m) a n)) = own_b ((0 : Int32) < ((a - m) - n)) := by
  rcases ha with rfl | rfl | rfl | rfl <;> rcases hm with rfl | rfl | rfl <;> rcases hn with rfl | rfl | rfl <;> first | decide | exact absurd (by decide) h1 | exact absurd (by decide) h2
theorem d1_0 : decode jdk_29_method_69_code 0 = .ok (.iload_n 0, 1) := by decide +kernel
theorem d1_1 : decode jdk_29_method_69_code 1 = .ok (.iload_n 1, 1) := by decide +kernel
theorem d1_2 : decode jdk_29_method_69_code 2 = .ok (.if_icmp .gt 7, 3) := by decide +kernel
theorem d1_9 : decode jdk_29_method_69_code 9 = .ok (.iload_n 1, 1) := by decide +kernel
theorem d1_10 : decode jdk_29_method_69_code 10 = .ok (.ireturn, 1) := by decide +kernel
theorem d1_5 : decode jdk_29_method_69_code 5 = .ok (.iload_n 0, 1) := by decide +kernel
theorem d1_6 : decode jdk_29_method_69_code 6 = .ok (.goto 4, 3) := by decide +kernel
theorem ef1 (m : MethodId) (p0 : Int32) (p1 : Int32) : entryFrame m #[(.int p0), (.int p1)] 2 = mkF m 0 #[.val (.int p0), .val (.int p1)] [] := by first | (simp [entryFrame, mkF, argsToLocals, Value.category]; done) | rfl
def Q1 (Z : State) (p0 : Int32) (p1 : Int32) (h0 : Heap) (n0 : Nat) (v : Option Value) (h : Heap) (L : List Loc) : Prop := v = some (.int (if p1 < p0 then p1 else p0)) ∧ Fr n0 L ∧ h = h0
set_option maxRecDepth 65536 in
set_option maxHeartbeats 40000000 in
theorem rm1 (l : Launch) (Z : State) (a0 : Array Value) (hw : ∀ d ∈ tables_1, d.before a0 Z = true) (ws : List Jvm.Cond) (p0 : Int32) (p1 : Int32) (h0 : Heap) (n0 : Nat) (Z0 : n0 ≤ h0.size) :
    MetFree l (⟨"java/lang/Math", "min", "(II)I"⟩ : MethodName) (head1 (Jvm.Cond.code (⟨"java/lang/Math", "min", "(II)I"⟩ : MethodName) jdk_29_method_69_code 2 (some .int) :: ws) ({ frames := 0, cells := 0, slots := 0, locals := 0 } : Room)) (fun a U => a = #[(.int p0), (.int p1)] ∧ Z.Warmed39 U.vm ∧ U.heap = h0) (fun _ _ _ _ _ => True) (fun _ U o U' => ∃ v L, o = .returned v ∧ Q1 Z p0 p1 h0 n0 v U'.heap L ∧ FrameEnd U o U' L ({ frames := 0, cells := 0, slots := 0, locals := 0 } : Room).cells ({ frames := 0, cells := 0, slots := 0, locals := 0 } : Room).slots) := by
  refine MetFree.of_bodySF (Jvm.Free.JP.mathPlain rfl (by decide +kernel)) hisR ?_
  intro p e s m args below meth c s₁ Bd hml0 hP hK
  obtain ⟨rfl, hZ, hh⟩ := hP
  have hx := Bd.exec
  have hby := Bd.bytes
  have hml : c.maxLocals = 2 := hml0
  have hown : s.vm.findClass "java/lang/Math" = some m.cls := findClass_of_methodNamed Bd.named
  have hnm := (name_of_methodNamed Bd.named Bd.method).1
  have X0 : Stand p l e ({ frames := 0, cells := 0, slots := 0, locals := 0 } : Room) s m #[(.int p0), (.int p1)] below meth c s₁ [] 0 0 := Stand.of_body Bd
  have e0 : s₁.heap = h0 := by rw [← hh, Bd.state]; rfl
  have N0 := Fr.nil n0
  have pre0 : ∀ tZ, Steps p.tables e below (s₁.setTop (mkF m 0 #[.val (.int p0), .val (.int p1)] [])) tZ → Steps p.tables e below (s₁.setTop (entryFrame m #[(.int p0), (.int p1)] 2)) tZ := fun tZ kZ => castTop (ef1 m p0 p1) kZ
  have pre1 : ∀ tZ, Steps p.tables e below (s₁.setTop (mkF m 2 #[.val (.int p0), .val (.int p1)] [(.int p1), (.int p0)])) tZ → Steps p.tables e below (s₁.setTop (entryFrame m #[(.int p0), (.int p1)] 2)) tZ := fun tZ kZ => pre0 tZ (by
    show Steps p.tables e below (s₁.setTop (mkF m 0 #[.val (.int p0), .val (.int p1)] [])) _
    refine XS.iloadN X0.here hx rfl (hb hby d1_0) rfl  ?_
    show Steps p.tables e below (s₁.setTop (mkF m 1 #[.val (.int p0), .val (.int p1)] [(.int p0)])) _
    refine XS.iloadN X0.here hx rfl (hb hby d1_1) rfl  ?_
    exact kZ)
  by_cases hc2 : p1 < p0
  ·  -- yes
    obtain ⟨fsZ, hrZ, hrun, hended, hW, hsame⟩ := X0.leave (v := some (.int p1)) (fun h => by rw [Bd.returns] at h; cases h)
    refine ⟨_, _, pre1 _ ?_, hrun, hended, _, _, rfl, ?_, ⟨_, rfl⟩, hW, hsame.mono (by decide) (by decide)⟩
    · show Steps p.tables e below (s₁.setTop (mkF m 2 #[.val (.int p0), .val (.int p1)] [(.int p1), (.int p0)])) _
      refine XS.icmpYes X0.here hx rfl (pc0 := 2) (pc' := 9) rfl (hb hby d1_2) rfl (tlt hc2).2.2.1 (by decide) (by decide) ?_
      show Steps p.tables e below (s₁.setTop (mkF m 9 #[.val (.int p0), .val (.int p1)] [])) _
      refine XS.iloadN X0.here hx rfl (hb hby d1_9) rfl  ?_
      show Steps p.tables e below (s₁.setTop (mkF m 10 #[.val (.int p0), .val (.int p1)] [(.int p1)])) _
      exact retI X0 hx Bd.returns (hb hby d1_10) hrZ
    · show Q1 Z p0 p1 h0 n0 _ s₁.heap _
      rw [e0]
      exact ⟨(congrArg (fun z => some (Value.int z)) (by first | rfl | (simp only [own_b, if_pos hc2]; done) | (simp only [own_b, eq_true hc2, and_true, true_and, and_false, false_and, or_true, true_or, or_false, false_or, not_true_eq_false, not_false_eq_true, if_true, if_false, reduceIte]; done) | (simp [own_b, hc2]; done))), N0, rfl⟩
  ·  -- no
    obtain ⟨fsZ, hrZ, hrun, hended, hW, hsame⟩ := X0.leave (v := some (.int p0)) (fun h => by rw [Bd.returns] at h; cases h)
    refine ⟨_, _, pre1 _ ?_, hrun, hended, _, _, rfl, ?_, ⟨_, rfl⟩, hW, hsame.mono (by decide) (by decide)⟩
    · show Steps p.tables e below (s₁.setTop (mkF m 2 #[.val (.int p0), .val (.int p1)] [(.int p1), (.int p0)])) _
      refine XS.icmpNo X0.here hx rfl (hb hby d1_2) rfl (flt hc2).2.2.1 ?_
      show Steps p.tables e below (s₁.setTop (mkF m 5 #[.val (.int p0), .val (.int p1)] [])) _
      refine XS.iloadN X0.here hx rfl (hb hby d1_5) rfl  ?_
      show Steps p.tables e below (s₁.setTop (mkF m 6 #[.val (.int p0), .val (.int p1)] [(.int p0)])) _
      refine XS.goto X0.here hx rfl (pc0 := 6) (pc' := 10) rfl (hb hby d1_6) (by decide) (by decide) ?_
      show Steps p.tables e below (s₁.setTop (mkF m 10 #[.val (.int p0), .val (.int p1)] [(.int p0)])) _
      exact retI X0 hx Bd.returns (hb hby d1_10) hrZ
    · show Q1 Z p0 p1 h0 n0 _ s₁.heap _
      rw [e0]
      exact ⟨(congrArg (fun z => some (Value.int z)) (by first | rfl | (simp only [own_b, if_neg hc2]; done) | (simp only [own_b, eq_false hc2, and_true, true_and, and_false, false_and, or_true, true_or, or_false, false_or, not_true_eq_false, not_false_eq_true, if_true, if_false, reduceIte]; done) | (simp [own_b, hc2]; done))), N0, rfl⟩
theorem pn0 : plainName "com/example/portunus/portunus/policy/Run" = true := by first | (simp [plainName, overriddenIn]; done) | decide +kernel
theorem d4_0 : decode prog_68_method_20_code 0 = .ok (.iload_n 0, 1) := by decide +kernel
theorem d4_1 : decode prog_68_method_20_code 1 = .ok (.anewarray 75, 3) := by decide +kernel
theorem d4_4 : decode prog_68_method_20_code 4 = .ok (.areturn, 1) := by decide +kernel
theorem ef4 (m : MethodId)  : entryFrame m #[(.int (8 : Int32))] 1 = mkF m 0 #[.val (.int (8 : Int32))] [] := by first | (simp [entryFrame, mkF, argsToLocals, Value.category]; done) | rfl
def Q4 (Z : State)  (h0 : Heap) (n0 : Nat) (v : Option Value) (h : Heap) (L : List Loc) : Prop := ∃ (b : Addr) (kt : ClassId), v = some (.ref b) ∧ Fr n0 L ∧ Keep h0 h [] ∧ n0 ≤ b ∧ h0.size ≤ b ∧ Arv Z h b kt (.object oW) (8 : Int32) [] .null
set_option maxRecDepth 65536 in
set_option maxHeartbeats 40000000 in
theorem rm4 (l : Launch) (Z : State) (a0 : Array Value) (hw : ∀ d ∈ tables_1, d.before a0 Z = true) (ws : List Jvm.Cond)  (h0 : Heap) (n0 : Nat) (Z0 : n0 ≤ h0.size) :
    MetFree l (⟨oR, "tasks", "(I)[Lcom/example/portunus/portunus/policy/WaitingTask;"⟩ : MethodName) (head1 (Jvm.Cond.code (⟨oR, "tasks", "(I)[Lcom/example/portunus/portunus/policy/WaitingTask;"⟩ : MethodName) prog_68_method_20_code 1 (some (.array (.object oW))) :: ws) ({ frames := 0, cells := 1, slots := 8, locals := 0 } : Room)) (fun a U => a = #[(.int (8 : Int32))] ∧ Z.Warmed39 U.vm ∧ U.heap = h0) (fun _ _ _ _ _ => True) (fun _ U o U' => ∃ v L, o = .returned v ∧ Q4 Z  h0 n0 v U'.heap L ∧ FrameEnd U o U' L ({ frames := 0, cells := 1, slots := 8, locals := 0 } : Room).cells ({ frames := 0, cells := 1, slots := 8, locals := 0 } : Room).slots) := by
  refine MetFree.of_bodySF (plainFor_of_name pn0) hisR ?_
  intro p e s m args below meth c s₁ Bd hml0 hP hK
  obtain ⟨rfl, hZ, hh⟩ := hP
  have hx := Bd.exec
  have hby := Bd.bytes
  have hml : c.maxLocals = 1 := hml0
  have hown : s.vm.findClass oR = some m.cls := findClass_of_methodNamed Bd.named
  have hnm := (name_of_methodNamed Bd.named Bd.method).1
  have X0 : Stand p l e ({ frames := 0, cells := 1, slots := 8, locals := 0 } : Room) s m #[(.int (8 : Int32))] below meth c s₁ [] 0 0 := Stand.of_body Bd
  have e0 : s₁.heap = h0 := by rw [← hh, Bd.state]; rfl
  have N0 := Fr.nil n0
  have pre0 : ∀ tZ, Steps p.tables e below (s₁.setTop (mkF m 0 #[.val (.int (8 : Int32))] [])) tZ → Steps p.tables e below (s₁.setTop (entryFrame m #[(.int (8 : Int32))] 1)) tZ := fun tZ kZ => castTop (ef4 m ) kZ
  obtain ⟨T1, h1, k1, X1, e1, E1, A1, O1, st1⟩ := newR X0 hx hZ hown (ow hw 17 rfl) (ow hw 18 rfl) e0 (g := (mkF m 1 #[.val (.int (8 : Int32))] [(.int (8 : Int32))])) rfl (hb hby d4_1) rfl (by decide) (cap := 8) (by decide) (by decide) (by decide) (by decide)
  obtain ⟨b1, g1⟩ : ∃ z, z = h0.size := ⟨_, rfl⟩
  rw [← g1] at A1 st1
  have gn_b1 : n0 ≤ b1 := Nat.le_trans Z0 (Nat.le_of_eq g1.symm)
  have sz_b1 : h0.size ≤ b1 := Nat.le_trans (Keep.refl h0 []).1 (Nat.le_of_eq g1.symm)
  have Z2 : n0 ≤ h1.size := Nat.le_trans Z0 E1.1
  have K3 : Keep h0 h1 [] := (Keep.refl h0 []).ext E1
  have V1 : Arv Z h1 b1 k1 (.object oW) (8 : Int32) [] .null := Arv.new A1 (by decide)
  obtain ⟨fsZ, hrZ, hrun, hended, hW, hsame⟩ := X1.leave (v := some (.ref b1)) (fun h => by rw [Bd.returns] at h; cases h)
  refine ⟨_, _, pre0 _ ?_, hrun, hended, _, _, rfl, ?_, ⟨_, rfl⟩, hW, hsame.mono (by decide) (by decide)⟩
  · show Steps p.tables e below (s₁.setTop (mkF m 0 #[.val (.int (8 : Int32))] [])) _
    refine XS.iloadN X0.here hx rfl (hb hby d4_0) rfl  ?_
    show Steps p.tables e below (s₁.setTop (mkF m 1 #[.val (.int (8 : Int32))] [(.int (8 : Int32))])) _
    refine st1 _ ?_
    show Steps p.tables e below (T1.setTop (mkF m 4 #[.val (.int (8 : Int32))] [(.ref b1)])) _
    jvm_step X1.here [X1.here.top, hx, (hb hby d4_4), X1.method', Bd.returns, Value.isRef, FieldType.isReference]
    first | (intro acts; rw [hrZ _ acts rfl rfl rfl]) | rw [hrZ _ _ rfl rfl rfl]
    exact Steps.refl _
  · show Q4 Z  h0 n0 _ T1.heap _
    rw [e1]
    exact ⟨b1, k1, rfl, N0, K3, gn_b1, sz_b1, V1⟩
theorem d6_0 : decode prog_68_method_18_code 0 = .ok (.aload_n 0, 1) := by decide +kernel
theorem d6_1 : decode prog_68_method_18_code 1 = .ok (.getfield 32, 3) := by decide +kernel
theorem d6_4 : decode prog_68_method_18_code 4 = .ok (.iload_n 1, 1) := by decide +kernel
theorem d6_5 : decode prog_68_method_18_code 5 = .ok (.iadd, 1) := by decide +kernel
theorem d6_6 : decode prog_68_method_18_code 6 = .ok (.aload_n 0, 1) := by decide +kernel
theorem d6_7 : decode prog_68_method_18_code 7 = .ok (.getfield 13, 3) := by decide +kernel
theorem d6_10 : decode prog_68_method_18_code 10 = .ok (.arraylength, 1) := by decide +kernel
theorem d6_11 : decode prog_68_method_18_code 11 = .ok (.iconst 1, 1) := by decide +kernel
theorem d6_12 : decode prog_68_method_18_code 12 = .ok (.isub, 1) := by decide +kernel
theorem d6_13 : decode prog_68_method_18_code 13 = .ok (.iand, 1) := by decide +kernel
theorem d6_14 : decode prog_68_method_18_code 14 = .ok (.ireturn, 1) := by decide +kernel
theorem ef6 (m : MethodId) (r : Addr) (p1 : Int32) : entryFrame m #[(.ref r), (.int p1)] 2 = mkF m 0 #[.val (.ref r), .val (.int p1)] [] := by first | (simp [entryFrame, mkF, argsToLocals, Value.category]; done) | rfl
def Q6 (Z : State) (r : Addr) (p1 : Int32) (tk : Addr) (fi : Int32) (kt : ClassId) (h0 : Heap) (n0 : Nat) (v : Option Value) (h : Heap) (L : List Loc) : Prop := v = some (.int ((fi + p1) &&& (7 : Int32))) ∧ Fr n0 L ∧ h = h0
set_option maxRecDepth 65536 in
set_option maxHeartbeats 40000000 in
theorem rm6 (l : Launch) (Z : State) (a0 : Array Value) (hw : ∀ d ∈ tables_1, d.before a0 Z = true) (ws : List Jvm.Cond) (r : Addr) (p1 : Int32) (tk : Addr) (fi : Int32) (kt : ClassId) (h0 : Heap) (n0 : Nat) (Z0 : n0 ≤ h0.size) (F1 : Fld Z h0 r oR "_tasks" "[Lcom/example/portunus/portunus/policy/WaitingTask;" (.ref tk)) (F2 : Fld Z h0 r oR "_first" "I" (.int fi)) (V1 : Arv Z h0 tk kt (.object oW) (8 : Int32) [] .null) :
    MetFree l (⟨oR, "slot", "(I)I"⟩ : MethodName) (head1 (Jvm.Cond.code (⟨oR, "slot", "(I)I"⟩ : MethodName) prog_68_method_18_code 2 (some .int) :: ws) ({ frames := 0, cells := 0, slots := 0, locals := 0 } : Room)) (fun a U => a = #[(.ref r), (.int p1)] ∧ Z.Warmed39 U.vm ∧ U.heap = h0) (fun _ _ _ _ _ => True) (fun _ U o U' => ∃ v L, o = .returned v ∧ Q6 Z r p1 tk fi kt h0 n0 v U'.heap L ∧ FrameEnd U o U' L ({ frames := 0, cells := 0, slots := 0, locals := 0 } : Room).cells ({ frames := 0, cells := 0, slots := 0, locals := 0 } : Room).slots) := by
  refine MetFree.of_bodySF (plainFor_of_name pn0) hisR ?_
  intro p e s m args below meth c s₁ Bd hml0 hP hK
  obtain ⟨rfl, hZ, hh⟩ := hP
  have hx := Bd.exec
  have hby := Bd.bytes
  have hml : c.maxLocals = 2 := hml0
  have hown : s.vm.findClass oR = some m.cls := findClass_of_methodNamed Bd.named
  have hnm := (name_of_methodNamed Bd.named Bd.method).1
  have X0 : Stand p l e ({ frames := 0, cells := 0, slots := 0, locals := 0 } : Room) s m #[(.ref r), (.int p1)] below meth c s₁ [] 0 0 := Stand.of_body Bd
  have e0 : s₁.heap = h0 := by rw [← hh, Bd.state]; rfl
  have N0 := Fr.nil n0
  have pre0 : ∀ tZ, Steps p.tables e below (s₁.setTop (mkF m 0 #[.val (.ref r), .val (.int p1)] [])) tZ → Steps p.tables e below (s₁.setTop (entryFrame m #[(.ref r), (.int p1)] 2)) tZ := fun tZ kZ => castTop (ef6 m r p1) kZ
  obtain ⟨T1, X1, e1, st1⟩ := getF X0 hx hZ hown (host := "") (Or.inl (ow hw 34 rfl)) Via.refl e0 F2 (g := (mkF m 1 #[.val (.ref r), .val (.int p1)] [(.ref r)])) rfl rfl (hb hby d6_1)
  obtain ⟨T2, X2, e2, st2⟩ := getF X1 hx hZ hown (host := "") (Or.inl (ow hw 19 rfl)) Via.refl e1 F1 (g := (mkF m 7 #[.val (.ref r), .val (.int p1)] [(.ref r), (.int (fi + p1))])) rfl rfl (hb hby d6_7)
  obtain ⟨c3, Arc3, -, Sc3, Mc3, -, -⟩ := id V1
  obtain ⟨fsZ, hrZ, hrun, hended, hW, hsame⟩ := X2.leave (v := some (.int ((fi + p1) &&& (7 : Int32)))) (fun h => by rw [Bd.returns] at h; cases h)
  refine ⟨_, _, pre0 _ ?_, hrun, hended, _, _, rfl, ?_, ⟨_, rfl⟩, hW, hsame.mono (by decide) (by decide)⟩
  · show Steps p.tables e below (s₁.setTop (mkF m 0 #[.val (.ref r), .val (.int p1)] [])) _
    refine XS.aloadN X0.here hx rfl (hb hby d6_0) rfl rfl ?_
    show Steps p.tables e below (s₁.setTop (mkF m 1 #[.val (.ref r), .val (.int p1)] [(.ref r)])) _
    refine st1 _ ?_
    show Steps p.tables e below (T1.setTop (mkF m 4 #[.val (.ref r), .val (.int p1)] [(.int fi)])) _
    refine XS.iloadN X1.here hx rfl (hb hby d6_4) rfl  ?_
    show Steps p.tables e below (T1.setTop (mkF m 5 #[.val (.ref r), .val (.int p1)] [(.int p1), (.int fi)])) _
    refine XS.iadd X1.here hx rfl (hb hby d6_5) rfl ?_
    show Steps p.tables e below (T1.setTop (mkF m 6 #[.val (.ref r), .val (.int p1)] [(.int (fi + p1))])) _
    refine XS.aloadN X1.here hx rfl (hb hby d6_6) rfl rfl ?_
    show Steps p.tables e below (T1.setTop (mkF m 7 #[.val (.ref r), .val (.int p1)] [(.ref r), (.int (fi + p1))])) _
    refine st2 _ ?_
    show Steps p.tables e below (T2.setTop (mkF m 10 #[.val (.ref r), .val (.int p1)] [(.ref tk), (.int (fi + p1))])) _
    refine X2.arraylength hx (by rw [e2]; exact Arc3.1) (State.isArrayOf_alike hZ.alike Arc3.2.1) (g := (mkF m 10 #[.val (.ref r), .val (.int p1)] [(.ref tk), (.int (fi + p1))])) rfl rfl (hb hby d6_10) _ ?_
    rw [len_of Sc3 Mc3]
    show Steps p.tables e below (T2.setTop (mkF m 11 #[.val (.ref r), .val (.int p1)] [(.int (8 : Int32)), (.int (fi + p1))])) _
    refine XS.iconst X2.here hx rfl (hb hby d6_11) ?_
    show Steps p.tables e below (T2.setTop (mkF m 12 #[.val (.ref r), .val (.int p1)] [(.int (1 : Int32)), (.int (8 : Int32)), (.int (fi + p1))])) _
    refine XS.isub X2.here hx rfl (hb hby d6_12) rfl ?_
    show Steps p.tables e below (T2.setTop (mkF m 13 #[.val (.ref r), .val (.int p1)] [(.int ((8 : Int32) - (1 : Int32))), (.int (fi + p1))])) _
    rw [show ((8 : Int32) - (1 : Int32)) = (7 : Int32) from by decide]
    show Steps p.tables e below (T2.setTop (mkF m 13 #[.val (.ref r), .val (.int p1)] [(.int (7 : Int32)), (.int (fi + p1))])) _
    refine XS.iand X2.here hx rfl (hb hby d6_13) rfl ?_
    show Steps p.tables e below (T2.setTop (mkF m 14 #[.val (.ref r), .val (.int p1)] [(.int ((fi + p1) &&& (7 : Int32)))])) _
    exact retI X2 hx Bd.returns (hb hby d6_14) hrZ
  · show Q6 Z r p1 tk fi kt h0 n0 _ T2.heap _
    rw [e2]
    exact ⟨rfl, N0, rfl⟩
theorem d7_0 : decode prog_68_method_2_code 0 = .ok (.aload_n 0, 1) := by decide +kernel
theorem d7_1 : decode prog_68_method_2_code 1 = .ok (.getfield 21, 3) := by decide +kernel
theorem d7_4 : decode prog_68_method_2_code 4 = .ok (.aload_n 0, 1) := by decide +kernel
theorem d7_5 : decode prog_68_method_2_code 5 = .ok (.getfield 25, 3) := by decide +kernel
theorem d7_8 : decode prog_68_method_2_code 8 = .ok (.if_icmp .ge 7, 3) := by decide +kernel
theorem d7_11 : decode prog_68_method_2_code 11 = .ok (.iconst 1, 1) := by decide +kernel
theorem d7_12 : decode prog_68_method_2_code 12 = .ok (.goto 4, 3) := by decide +kernel
theorem d7_16 : decode prog_68_method_2_code 16 = .ok (.ireturn, 1) := by decide +kernel
theorem d7_15 : decode prog_68_method_2_code 15 = .ok (.iconst 0, 1) := by decide +kernel
theorem ef7 (m : MethodId) (r : Addr) : entryFrame m #[(.ref r)] 1 = mkF m 0 #[.val (.ref r)] [] := by first | (simp [entryFrame, mkF, argsToLocals, Value.category]; done) | rfl
def Q7 (Z : State) (r : Addr) (sz : Int32) (ls : Int32) (h0 : Heap) (n0 : Nat) (v : Option Value) (h : Heap) (L : List Loc) : Prop := v = some (.int (own_b (ls < sz))) ∧ Fr n0 L ∧ h = h0
set_option maxRecDepth 65536 in
set_option maxHeartbeats 40000000 in
theorem rm7 (l : Launch) (Z : State) (a0 : Array Value) (hw : ∀ d ∈ tables_1, d.before a0 Z = true) (ws : List Jvm.Cond) (r : Addr) (sz : Int32) (ls : Int32) (h0 : Heap) (n0 : Nat) (Z0 : n0 ≤ h0.size) (F1 : Fld Z h0 r oR "_size" "I" (.int sz)) (F2 : Fld Z h0 r oR "_lostSlots" "I" (.int ls)) :
    MetFree l (⟨oR, "hasOther", "()Z"⟩ : MethodName) (head1 (Jvm.Cond.code (⟨oR, "hasOther", "()Z"⟩ : MethodName) prog_68_method_2_code 1 (some .boolean) :: ws) ({ frames := 0, cells := 0, slots := 0, locals := 0 } : Room)) (fun a U => a = #[(.ref r)] ∧ Z.Warmed39 U.vm ∧ U.heap = h0) (fun _ _ _ _ _ => True) (fun _ U o U' => ∃ v L, o = .returned v ∧ Q7 Z r sz ls h0 n0 v U'.heap L ∧ FrameEnd U o U' L ({ frames := 0, cells := 0, slots := 0, locals := 0 } : Room).cells ({ frames := 0, cells := 0, slots := 0, locals := 0 } : Room).slots) := by
  refine MetFree.of_bodySF (plainFor_of_name pn0) hisR ?_
  intro p e s m args below meth c s₁ Bd hml0 hP hK
  obtain ⟨rfl, hZ, hh⟩ := hP
  have hx := Bd.exec
  have hby := Bd.bytes
  have hml : c.maxLocals = 1 := hml0
  have hown : s.vm.findClass oR = some m.cls := findClass_of_methodNamed Bd.named
  have hnm := (name_of_methodNamed Bd.named Bd.method).1
  have X0 : Stand p l e ({ frames := 0, cells := 0, slots := 0, locals := 0 } : Room) s m #[(.ref r)] below meth c s₁ [] 0 0 := Stand.of_body Bd
  have e0 : s₁.heap = h0 := by rw [← hh, Bd.state]; rfl
  have N0 := Fr.nil n0
  have pre0 : ∀ tZ, Steps p.tables e below (s₁.setTop (mkF m 0 #[.val (.ref r)] [])) tZ → Steps p.tables e below (s₁.setTop (entryFrame m #[(.ref r)] 1)) tZ := fun tZ kZ => castTop (ef7 m r) kZ
  obtain ⟨T1, X1, e1, st1⟩ := getF X0 hx hZ hown (host := "") (Or.inl (ow hw 43 rfl)) Via.refl e0 F2 (g := (mkF m 1 #[.val (.ref r)] [(.ref r)])) rfl rfl (hb hby d7_1)
  obtain ⟨T2, X2, e2, st2⟩ := getF X1 hx hZ hown (host := "") (Or.inl (ow hw 28 rfl)) Via.refl e1 F1 (g := (mkF m 5 #[.val (.ref r)] [(.ref r), (.int ls)])) rfl rfl (hb hby d7_5)
  have pre3 : ∀ tZ, Steps p.tables e below (T2.setTop (mkF m 8 #[.val (.ref r)] [(.int sz), (.int ls)])) tZ → Steps p.tables e below (s₁.setTop (entryFrame m #[(.ref r)] 1)) tZ := fun tZ kZ => pre0 tZ (by
    show Steps p.tables e below (s₁.setTop (mkF m 0 #[.val (.ref r)] [])) _
    refine XS.aloadN X0.here hx rfl (hb hby d7_0) rfl rfl ?_
    show Steps p.tables e below (s₁.setTop (mkF m 1 #[.val (.ref r)] [(.ref r)])) _
    refine st1 _ ?_
    show Steps p.tables e below (T1.setTop (mkF m 4 #[.val (.ref r)] [(.int ls)])) _
    refine XS.aloadN X1.here hx rfl (hb hby d7_4) rfl rfl ?_
    show Steps p.tables e below (T1.setTop (mkF m 5 #[.val (.ref r)] [(.ref r), (.int ls)])) _
    refine st2 _ ?_
    exact kZ)
  by_cases hc4 : ls < sz
  ·  -- yes
    obtain ⟨fsZ, hrZ, hrun, hended, hW, hsame⟩ := X2.leave (v := some (.int (1 : Int32))) (fun h => by rw [Bd.returns] at h; cases h)
    refine ⟨_, _, pre3 _ ?_, hrun, hended, _, _, rfl, ?_, ⟨_, rfl⟩, hW, hsame.mono (by decide) (by decide)⟩
    · show Steps p.tables e below (T2.setTop (mkF m 8 #[.val (.ref r)] [(.int sz), (.int ls)])) _
      refine XS.icmpNo X2.here hx rfl (hb hby d7_8) rfl (tlt hc4).2.1 ?_
      show Steps p.tables e below (T2.setTop (mkF m 11 #[.val (.ref r)] [])) _
      refine XS.iconst X2.here hx rfl (hb hby d7_11) ?_
      show Steps p.tables e below (T2.setTop (mkF m 12 #[.val (.ref r)] [(.int (1 : Int32))])) _
      refine XS.goto X2.here hx rfl (pc0 := 12) (pc' := 16) rfl (hb hby d7_12) (by decide) (by decide) ?_
      show Steps p.tables e below (T2.setTop (mkF m 16 #[.val (.ref r)] [(.int (1 : Int32))])) _
      exact retN X2 hx (t := .boolean) Bd.returns (by simp) (hb hby d7_16) hrZ
    · show Q7 Z r sz ls h0 n0 _ T2.heap _
      rw [e2]
      exact ⟨(congrArg (fun z => some (Value.int z)) (by first | rfl | (simp only [own_b, if_pos hc4]; done) | (simp only [own_b, eq_true hc4, and_true, true_and, and_false, false_and, or_true, true_or, or_false, false_or, not_true_eq_false, not_false_eq_true, if_true, if_false, reduceIte]; done) | (simp [own_b, hc4]; done))), N0, rfl⟩
  ·  -- no
    obtain ⟨fsZ, hrZ, hrun, hended, hW, hsame⟩ := X2.leave (v := some (.int (0 : Int32))) (fun h => by rw [Bd.returns] at h; cases h)
    refine ⟨_, _, pre3 _ ?_, hrun, hended, _, _, rfl, ?_, ⟨_, rfl⟩, hW, hsame.mono (by decide) (by decide)⟩
    · show Steps p.tables e below (T2.setTop (mkF m 8 #[.val (.ref r)] [(.int sz), (.int ls)])) _
      refine XS.icmpYes X2.here hx rfl (pc0 := 8) (pc' := 15) rfl (hb hby d7_8) rfl (flt hc4).2.1 (by decide) (by decide) ?_
      show Steps p.tables e below (T2.setTop (mkF m 15 #[.val (.ref r)] [])) _
      refine XS.iconst X2.here hx rfl (hb hby d7_15) ?_
      show Steps p.tables e below (T2.setTop (mkF m 16 #[.val (.ref r)] [(.int (0 : Int32))])) _
      exact retN X2 hx (t := .boolean) Bd.returns (by simp) (hb hby d7_16) hrZ
    · show Q7 Z r sz ls h0 n0 _ T2.heap _
      rw [e2]
      exact ⟨(congrArg (fun z => some (Value.int z)) (by first | rfl | (simp only [own_b, if_neg hc4]; done) | (simp only [own_b, eq_false hc4, and_true, true_and, and_false, false_and, or_true, true_or, or_false, false_or, not_true_eq_false, not_false_eq_true, if_true, if_false, reduceIte]; done) | (simp [own_b, hc4]; done))), N0, rfl⟩
theorem d2_0 : decode prog_68_method_1_code 0 = .ok (.aload_n 0, 1) := by decide +kernel
theorem d2_1 : decode prog_68_method_1_code 1 = .ok (.invokespecial 1, 3) := by decide +kernel
theorem d2_4 : decode prog_68_method_1_code 4 = .ok (.aload_n 0, 1) := by decide +kernel
theorem d2_5 : decode prog_68_method_1_code 5 = .ok (.bipush 8, 2) := by decide +kernel
theorem d2_7 : decode prog_68_method_1_code 7 = .ok (.invokestatic 7, 3) := by decide +kernel
theorem pd1 : parseMethodDescriptor "(I)[Lcom/example/portunus/portunus/policy/WaitingTask;" = some ⟨[.int], some (.array (.object oW))⟩ := by decide +kernel
theorem d2_10 : decode prog_68_method_1_code 10 = .ok (.putfield 13, 3) := by decide +kernel
theorem d2_13 : decode prog_68_method_1_code 13 = .ok (.aload_n 0, 1) := by decide +kernel
theorem d2_14 : decode prog_68_method_1_code 14 = .ok (.iload_n 1, 1) := by decide +kernel
theorem d2_15 : decode prog_68_method_1_code 15 = .ok (.ifCond .eq 13, 3) := by decide +kernel
theorem d2_28 : decode prog_68_method_1_code 28 = .ok (.aconst_null, 1) := by decide +kernel
theorem d2_29 : decode prog_68_method_1_code 29 = .ok (.putfield 17, 3) := by decide +kernel
theorem d2_32 : decode prog_68_method_1_code 32 = .ok (.return_, 1) := by decide +kernel
theorem ef2n (m : MethodId) (r : Addr) : entryFrame m #[(.ref r), (.int (0 : Int32))] 2 = mkF m 0 #[.val (.ref r), .val (.int (0 : Int32))] [] := by first | (simp [entryFrame, mkF, argsToLocals, Value.category]; done) | rfl
def Q2n (Z : State) (r : Addr) (u1 : Value) (u2 : Value) (h0 : Heap) (n0 : Nat) (v : Option Value) (h : Heap) (L : List Loc) : Prop := ∃ (tk : Addr) (kt : ClassId), v = none ∧ Fr n0 L ∧ Keep h0 h [r] ∧ n0 ≤ tk ∧ h0.size ≤ tk ∧ Exa Z h r oR ∧ Fld Z h r oR "_tasks" "[Lcom/example/portunus/portunus/policy/WaitingTask;" (.ref tk) ∧ Fld Z h r oR "_mayBeLostAfterUs" "[D" .null ∧ Fld Z h r oR "_size" "I" (.int (0 : Int32)) ∧ Fld Z h r oR "_lostSlots" "I" (.int (0 : Int32)) ∧ Fld Z h r oR "_first" "I" (.int (0 : Int32)) ∧ Arv Z h tk kt (.object oW) (8 : Int32) [] .null
set_option maxRecDepth 65536 in
set_option maxHeartbeats 40000000 in
theorem rm2n (l : Launch) (Z : State) (a0 : Array Value) (hw : ∀ d ∈ tables_1, d.before a0 Z = true) (ws : List Jvm.Cond) (r : Addr) (u1 : Value) (u2 : Value) (h0 : Heap) (n0 : Nat) (Z0 : n0 ≤ h0.size) (E1 : Exa Z h0 r oR) (F0 : Fld Z h0 r oR "_tasks" "[Lcom/example/portunus/portunus/policy/WaitingTask;" u1) (F1 : Fld Z h0 r oR "_mayBeLostAfterUs" "[D" u2) (F2 : Fld Z h0 r oR "_size" "I" (.int (0 : Int32))) (F3 : Fld Z h0 r oR "_lostSlots" "I" (.int (0 : Int32))) (F4 : Fld Z h0 r oR "_first" "I" (.int (0 : Int32))) (g1 : n0 ≤ r) :
    MetFree l (⟨oR, "<init>", "(Z)V"⟩ : MethodName) (head1 (Jvm.Cond.code (⟨oR, "<init>", "(Z)V"⟩ : MethodName) prog_68_method_1_code 2 none :: ws) ({ frames := 1, cells := 1, slots := 8, locals := 13 } : Room)) (fun a U => a = #[(.ref r), (.int (0 : Int32))] ∧ Z.Warmed39 U.vm ∧ U.heap = h0) (fun _ _ _ _ _ => True) (fun _ U o U' => ∃ v L, o = .returned v ∧ Q2n Z r u1 u2 h0 n0 v U'.heap L ∧ FrameEnd U o U' L ({ frames := 1, cells := 1, slots := 8, locals := 13 } : Room).cells ({ frames := 1, cells := 1, slots := 8, locals := 13 } : Room).slots) := by
  refine MetFree.of_bodySF (plainFor_of_name pn0) hisR ?_
  intro p e s m args below meth c s₁ Bd hml0 hP hK
  obtain ⟨rfl, hZ, hh⟩ := hP
  have hx := Bd.exec
  have hby := Bd.bytes
  have hml : c.maxLocals = 2 := hml0
  have hown : s.vm.findClass oR = some m.cls := findClass_of_methodNamed Bd.named
  have hnm := (name_of_methodNamed Bd.named Bd.method).1
  have X0 : Stand p l e ({ frames := 1, cells := 1, slots := 8, locals := 13 } : Room) s m #[(.ref r), (.int (0 : Int32))] below meth c s₁ [] 0 0 := Stand.of_body Bd
  have e0 : s₁.heap = h0 := by rw [← hh, Bd.state]; rfl
  have N0 := Fr.nil n0
  have pre0 : ∀ tZ, Steps p.tables e below (s₁.setTop (mkF m 0 #[.val (.ref r), .val (.int (0 : Int32))] [])) tZ → Steps p.tables e below (s₁.setTop (entryFrame m #[(.ref r), (.int (0 : Int32))] 2)) tZ := fun tZ kZ => castTop (ef2n m r) kZ
  obtain ⟨T1, X1, e1, st1⟩ := initO X0 hx hZ hown (ow hw 11 rfl) (ow hw 12 rfl) (ow hw 13 rfl) e0 (g := (mkF m 1 #[.val (.ref r), .val (.int (0 : Int32))] [(.ref r)])) rfl (by rw [hml]; rfl) rfl (hb hby d2_1) (by decide) (W := 0) (by show 2 * 0 + _ ≤ _; exact Nat.le_of_eq rfl) (by decide)
  obtain ⟨_, _, ⟨T2, L2, k2, n2⟩, -, X2, ⟨Lc2, hQ2, l2, y2, z2⟩, st2⟩ := Jvm.LawKit.callS X1 hx (y := (⟨oR, "tasks", "(I)[Lcom/example/portunus/portunus/policy/WaitingTask;"⟩ : MethodName)) hown (mvT hZ (ow hw 14 rfl)) (mvT hZ (ow hw 15 rfl)) (mvT hZ (ow hw 7 rfl)) (mvT hZ (ow hw 16 rfl)) (by decide) (backOf (W := 1) (rm4 l Z a0 hw []  h0 n0 Z0 ) hZ (ow hw 16 rfl) (ow hw 7 rfl) (by decide) (by decide)) (g := (mkF m 7 #[.val (.ref r), .val (.int (0 : Int32))] [(.int (8 : Int32)), (.ref r)])) rfl (by rw [hml]; rfl) (argsL := [(.int (8 : Int32))]) (rest := [(.ref r)]) (lenOf pd1 rfl) rfl (by show 2 * 0 + _ ≤ _; exact Nat.le_of_eq rfl) (hb hby d2_7) (fun _ _ => ⟨rfl, e1, (by decide : 0 + 1 ≤ _), (by decide : 0 + 8 ≤ _)⟩)
  dsimp only [Pt.U, Pt.locs, Pt.cells, Pt.slots] at X2 l2 y2 z2 st2 hQ2
  subst l2 y2 z2
  obtain ⟨b_3, kt_4, rfl, N2q, K2, u2_0, u2_1, f2_0⟩ := hQ2
  have N2 := Fr.app N0 N2q
  have Z5 : n0 ≤ T2.heap.size := Nat.le_trans Z0 K2.1
  have K6 : Keep h0 T2.heap [r] := (Keep.refl h0 [r]).trans K2 all0
  have ne7 : r ≠ b_3 := Nat.ne_of_lt (Nat.lt_of_lt_of_le E1.lt u2_1)
  have sz_b_3 : h0.size ≤ b_3 := Nat.le_trans (Keep.refl h0 [r]).1 u2_1
  have fa8 : Fld Z T2.heap r oR "_tasks" "[Lcom/example/portunus/portunus/policy/WaitingTask;" u1 := (F0.keep K2 nin0)
  have fa9 : Exa Z T2.heap r oR := (E1.keep K2)
  obtain ⟨T10, h10, X10, e10, W10, st10⟩ := putF X2 hx hZ hown (host := "") (Or.inl (ow hw 19 rfl)) Via.refl rfl fa8 fa9 (Or.inl (ow hw 20 rfl)) (ow hw 6 rfl) (ty := (.array (.object oW))) (by decide) rfl rfl (g := (mkF m 10 #[.val (.ref r), .val (.int (0 : Int32))] [(.ref b_3), (.ref r)])) rfl rfl (hb hby d2_10)
  have fw10 : Fld Z h10 r oR "_tasks" "[Lcom/example/portunus/portunus/policy/WaitingTask;" (.ref b_3) := fa8.same W10
  have Z11 : n0 ≤ h10.size := Nat.le_trans Z5 (Nat.le_of_eq W10.size.symm)
  have K12 : Keep h0 h10 [r] := K6.wr W10 (Or.inl (List.mem_of_getElem? (i := 0) rfl))
  have N10 := Fr.snoc X10 N2 g1
  have fa13 : Fld Z h10 r oR "_mayBeLostAfterUs" "[D" u2 := ((F1.keep K2 nin0).other W10 (Or.inr (slot_ne (Or.inl (ow hw 22 rfl)) (Or.inl (ow hw 20 rfl)) (by decide) (t := (.array .double)) (t' := (.array (.object oW))) (by decide) (by decide))))
  have fa14 : Exa Z h10 r oR := (fa9.wr W10)
  obtain ⟨T15, h15, X15, e15, W15, st15⟩ := putF X10 hx hZ hown (host := "") (Or.inl (ow hw 21 rfl)) Via.refl e10 fa13 fa14 (Or.inl (ow hw 22 rfl)) (ow hw 6 rfl) (ty := (.array .double)) (by decide) rfl rfl (g := (mkF m 29 #[.val (.ref r), .val (.int (0 : Int32))] [.null, (.ref r)])) rfl rfl (hb hby d2_29)
  have fw15 : Fld Z h15 r oR "_mayBeLostAfterUs" "[D" .null := fa13.same W15
  have Z16 : n0 ≤ h15.size := Nat.le_trans Z11 (Nat.le_of_eq W15.size.symm)
  have K17 : Keep h0 h15 [r] := K12.wr W15 (Or.inl (List.mem_of_getElem? (i := 0) rfl))
  have N15 := Fr.snoc X15 N10 g1
  obtain ⟨fsZ, hrZ, hrun, hended, hW, hsame⟩ := X15.leave (v := none) (fun _ => rfl)
  have fa18 : Exa Z h15 r oR := (fa14.wr W15)
  have fa19 : Fld Z h15 r oR "_tasks" "[Lcom/example/portunus/portunus/policy/WaitingTask;" (.ref b_3) := (fw10.other W15 (Or.inr (slot_ne (Or.inl (ow hw 20 rfl)) (Or.inl (ow hw 22 rfl)) (by decide) (t := (.array (.object oW))) (t' := (.array .double)) (by decide) (by decide))))
  have fa20 : Fld Z h15 r oR "_size" "I" (.int (0 : Int32)) := (((F2.keep K2 nin0).other W10 (Or.inr (slot_ne (Or.inl (ow hw 29 rfl)) (Or.inl (ow hw 20 rfl)) (by decide) (t := .int) (t' := (.array (.object oW))) (by decide) (by decide)))).other W15 (Or.inr (slot_ne (Or.inl (ow hw 29 rfl)) (Or.inl (ow hw 22 rfl)) (by decide) (t := .int) (t' := (.array .double)) (by decide) (by decide))))
  have fa21 : Fld Z h15 r oR "_lostSlots" "I" (.int (0 : Int32)) := (((F3.keep K2 nin0).other W10 (Or.inr (slot_ne (Or.inl (ow hw 44 rfl)) (Or.inl (ow hw 20 rfl)) (by decide) (t := .int) (t' := (.array (.object oW))) (by decide) (by decide)))).other W15 (Or.inr (slot_ne (Or.inl (ow hw 44 rfl)) (Or.inl (ow hw 22 rfl)) (by decide) (t := .int) (t' := (.array .double)) (by decide) (by decide))))
  have fa22 : Fld Z h15 r oR "_first" "I" (.int (0 : Int32)) := (((F4.keep K2 nin0).other W10 (Or.inr (slot_ne (Or.inl (ow hw 35 rfl)) (Or.inl (ow hw 20 rfl)) (by decide) (t := .int) (t' := (.array (.object oW))) (by decide) (by decide)))).other W15 (Or.inr (slot_ne (Or.inl (ow hw 35 rfl)) (Or.inl (ow hw 22 rfl)) (by decide) (t := .int) (t' := (.array .double)) (by decide) (by decide))))
  have fa23 : Arv Z h15 b_3 kt_4 (.object oW) (8 : Int32) [] .null := ((f2_0.other W10 (Ne.symm ne7)).other W15 (Ne.symm ne7))
  refine ⟨_, _, pre0 _ ?_, hrun, hended, _, _, rfl, ?_, ⟨_, rfl⟩, hW, hsame.mono (by decide) (by decide)⟩
  · show Steps p.tables e below (s₁.setTop (mkF m 0 #[.val (.ref r), .val (.int (0 : Int32))] [])) _
    refine XS.aloadN X0.here hx rfl (hb hby d2_0) rfl rfl ?_
    show Steps p.tables e below (s₁.setTop (mkF m 1 #[.val (.ref r), .val (.int (0 : Int32))] [(.ref r)])) _
    refine st1 _ ?_
    show Steps p.tables e below (T1.setTop (mkF m 4 #[.val (.ref r), .val (.int (0 : Int32))] [])) _
    refine XS.aloadN X1.here hx rfl (hb hby d2_4) rfl rfl ?_
    show Steps p.tables e below (T1.setTop (mkF m 5 #[.val (.ref r), .val (.int (0 : Int32))] [(.ref r)])) _
    refine XS.bipush X1.here hx rfl (hb hby d2_5) ?_
    show Steps p.tables e below (T1.setTop (mkF m 7 #[.val (.ref r), .val (.int (0 : Int32))] [(.int (8 : Int32)), (.ref r)])) _
    refine st2 _ ?_
    show Steps p.tables e below (T2.setTop (mkF m 10 #[.val (.ref r), .val (.int (0 : Int32))] [(.ref b_3), (.ref r)])) _
    refine st10 _ ?_
    show Steps p.tables e below (T10.setTop (mkF m 13 #[.val (.ref r), .val (.int (0 : Int32))] [])) _
    refine XS.aloadN X10.here hx rfl (hb hby d2_13) rfl rfl ?_
    show Steps p.tables e below (T10.setTop (mkF m 14 #[.val (.ref r), .val (.int (0 : Int32))] [(.ref r)])) _
    refine XS.iloadN X10.here hx rfl (hb hby d2_14) rfl  ?_
    show Steps p.tables e below (T10.setTop (mkF m 15 #[.val (.ref r), .val (.int (0 : Int32))] [(.int (0 : Int32)), (.ref r)])) _
    refine XS.ifYes X10.here hx rfl (pc0 := 15) (pc' := 28) rfl (hb hby d2_15) rfl ((if0 _ _).trans (teq (by decide)).1) (by decide) (by decide) ?_
    show Steps p.tables e below (T10.setTop (mkF m 28 #[.val (.ref r), .val (.int (0 : Int32))] [(.ref r)])) _
    refine XS.aconstNull X10.here hx rfl (hb hby d2_28) ?_
    show Steps p.tables e below (T10.setTop (mkF m 29 #[.val (.ref r), .val (.int (0 : Int32))] [.null, (.ref r)])) _
    refine st15 _ ?_
    show Steps p.tables e below (T15.setTop (mkF m 32 #[.val (.ref r), .val (.int (0 : Int32))] [])) _
    exact X15.returnOut hx Bd.returns (hb hby d2_32) hrZ
  · show Q2n Z r u1 u2 h0 n0 _ T15.heap _
    rw [e15]
    exact ⟨b_3, kt_4, rfl, N15, K17, u2_0, sz_b_3, fa18, fa19, fw15, fa20, fa21, fa22, fa23⟩
theorem d5_0 : decode prog_68_method_14_code 0 = .ok (.aload_n 0, 1) := by decide +kernel
theorem d5_1 : decode prog_68_method_14_code 1 = .ok (.getfield 25, 3) := by decide +kernel
theorem d5_4 : decode prog_68_method_14_code 4 = .ok (.aload_n 0, 1) := by decide +kernel
theorem d5_5 : decode prog_68_method_14_code 5 = .ok (.getfield 13, 3) := by decide +kernel
theorem d5_8 : decode prog_68_method_14_code 8 = .ok (.arraylength, 1) := by decide +kernel
theorem d5_9 : decode prog_68_method_14_code 9 = .ok (.if_icmp .ne 7, 3) := by decide +kernel
theorem d5_16 : decode prog_68_method_14_code 16 = .ok (.aload_n 0, 1) := by decide +kernel
theorem d5_17 : decode prog_68_method_14_code 17 = .ok (.aload_n 0, 1) := by decide +kernel
theorem d5_18 : decode prog_68_method_14_code 18 = .ok (.getfield 25, 3) := by decide +kernel
theorem d5_21 : decode prog_68_method_14_code 21 = .ok (.invokevirtual 28, 3) := by decide +kernel
theorem pd2 : parseMethodDescriptor "(I)I" = some ⟨[.int], some .int⟩ := by decide +kernel
theorem d5_24 : decode prog_68_method_14_code 24 = .ok (.istore 4, 2) := by decide +kernel
theorem d5_26 : decode prog_68_method_14_code 26 = .ok (.aload_n 0, 1) := by decide +kernel
theorem d5_27 : decode prog_68_method_14_code 27 = .ok (.getfield 13, 3) := by decide +kernel
theorem d5_30 : decode prog_68_method_14_code 30 = .ok (.iload 4, 2) := by decide +kernel
theorem d5_32 : decode prog_68_method_14_code 32 = .ok (.aload_n 1, 1) := by decide +kernel
theorem d5_33 : decode prog_68_method_14_code 33 = .ok (.aastore, 1) := by decide +kernel
theorem d5_34 : decode prog_68_method_14_code 34 = .ok (.aload_n 0, 1) := by decide +kernel
theorem d5_35 : decode prog_68_method_14_code 35 = .ok (.getfield 17, 3) := by decide +kernel
theorem d5_38 : decode prog_68_method_14_code 38 = .ok (.ifnull 11, 3) := by decide +kernel
theorem d5_49 : decode prog_68_method_14_code 49 = .ok (.aload_n 0, 1) := by decide +kernel
theorem d5_50 : decode prog_68_method_14_code 50 = .ok (.dup, 1) := by decide +kernel
theorem d5_51 : decode prog_68_method_14_code 51 = .ok (.getfield 25, 3) := by decide +kernel
theorem d5_54 : decode prog_68_method_14_code 54 = .ok (.iconst 1, 1) := by decide +kernel
theorem d5_55 : decode prog_68_method_14_code 55 = .ok (.iadd, 1) := by decide +kernel
theorem d5_56 : decode prog_68_method_14_code 56 = .ok (.putfield 25, 3) := by decide +kernel
theorem d5_59 : decode prog_68_method_14_code 59 = .ok (.return_, 1) := by decide +kernel
theorem ef5n (m : MethodId) (r : Addr) (dv : UInt64) : entryFrame m #[(.ref r), .null, (.double dv)] 5 = mkF m 0 #[.val (.ref r), .val .null, .val (.double dv), .second, .unset] [] := by first | (simp [entryFrame, mkF, argsToLocals, Value.category]; done) | rfl
def Q5n (Z : State) (r : Addr) (dv : UInt64) (tk : Addr) (sz : Int32) (ls : Int32) (fi : Int32) (kt : ClassId) (h0 : Heap) (n0 : Nat) (v : Option Value) (h : Heap) (L : List Loc) : Prop := v = none ∧ Fr n0 L ∧ Keep h0 h [r, tk] ∧ Exa Z h r oR ∧ Fld Z h r oR "_tasks" "[Lcom/example/portunus/portunus/policy/WaitingTask;" (.ref tk) ∧ Fld Z h r oR "_mayBeLostAfterUs" "[D" .null ∧ Fld Z h r oR "_size" "I" (.int (sz + (1 : Int32))) ∧ Fld Z h r oR "_lostSlots" "I" (.int ls) ∧ Fld Z h r oR "_first" "I" (.int fi) ∧ Arv Z h tk kt (.object oW) (8 : Int32) [] .null
set_option maxRecDepth 65536 in
set_option maxHeartbeats 40000000 in
theorem rm5n (l : Launch) (Z : State) (a0 : Array Value) (hw : ∀ d ∈ tables_1, d.before a0 Z = true) (ws : List Jvm.Cond) (r : Addr) (dv : UInt64) (tk : Addr) (sz : Int32) (ls : Int32) (fi : Int32) (kt : ClassId) (h0 : Heap) (n0 : Nat) (Z0 : n0 ≤ h0.size) (E1 : Exa Z h0 r oR) (F0 : Fld Z h0 r oR "_tasks" "[Lcom/example/portunus/portunus/policy/WaitingTask;" (.ref tk)) (F1 : Fld Z h0 r oR "_mayBeLostAfterUs" "[D" .null) (F2 : Fld Z h0 r oR "_size" "I" (.int sz)) (F3 : Fld Z h0 r oR "_lostSlots" "I" (.int ls)) (F4 : Fld Z h0 r oR "_first" "I" (.int fi)) (V1 : Arv Z h0 tk kt (.object oW) (8 : Int32) [] .null) (g1 : n0 ≤ r) (g2 : n0 ≤ tk) (n1 : r ≠ tk) (hs : ¬ (sz = (8 : Int32))) :
    MetFree l (⟨oR, "addLast", "(Lcom/example/portunus/portunus/policy/WaitingTask;D)V"⟩ : MethodName) (head1 (Jvm.Cond.code (⟨oR, "addLast", "(Lcom/example/portunus/portunus/policy/WaitingTask;D)V"⟩ : MethodName) prog_68_method_14_code 5 none :: ws) ({ frames := 1, cells := 0, slots := 0, locals := 13 } : Room)) (fun a U => a = #[(.ref r), .null, (.double dv)] ∧ Z.Warmed39 U.vm ∧ U.heap = h0) (fun _ _ _ _ _ => True) (fun _ U o U' => ∃ v L, o = .returned v ∧ Q5n Z r dv tk sz ls fi kt h0 n0 v U'.heap L ∧ FrameEnd U o U' L ({ frames := 1, cells := 0, slots := 0, locals := 13 } : Room).cells ({ frames := 1, cells := 0, slots := 0, locals := 13 } : Room).slots) := by
  refine MetFree.of_bodySF (plainFor_of_name pn0) hisR ?_
  intro p e s m args below meth c s₁ Bd hml0 hP hK
  obtain ⟨rfl, hZ, hh⟩ := hP
  have hx := Bd.exec
  have hby := Bd.bytes
  have hml : c.maxLocals = 5 := hml0
  have hown : s.vm.findClass oR = some m.cls := findClass_of_methodNamed Bd.named
  have hnm := (name_of_methodNamed Bd.named Bd.method).1
  have X0 : Stand p l e ({ frames := 1, cells := 0, slots := 0, locals := 13 } : Room) s m #[(.ref r), .null, (.double dv)] below meth c s₁ [] 0 0 := Stand.of_body Bd
  have e0 : s₁.heap = h0 := by rw [← hh, Bd.state]; rfl
  have N0 := Fr.nil n0
  have pre0 : ∀ tZ, Steps p.tables e below (s₁.setTop (mkF m 0 #[.val (.ref r), .val .null, .val (.double dv), .second, .unset] [])) tZ → Steps p.tables e below (s₁.setTop (entryFrame m #[(.ref r), .null, (.double dv)] 5)) tZ := fun tZ kZ => castTop (ef5n m r dv) kZ
  obtain ⟨T1, X1, e1, st1⟩ := getF X0 hx hZ hown (host := "") (Or.inl (ow hw 28 rfl)) Via.refl e0 F2 (g := (mkF m 1 #[.val (.ref r), .val .null, .val (.double dv), .second, .unset] [(.ref r)])) rfl rfl (hb hby d5_1)
  obtain ⟨T2, X2, e2, st2⟩ := getF X1 hx hZ hown (host := "") (Or.inl (ow hw 19 rfl)) Via.refl e1 F0 (g := (mkF m 5 #[.val (.ref r), .val .null, .val (.double dv), .second, .unset] [(.ref r), (.int sz)])) rfl rfl (hb hby d5_5)
  obtain ⟨c3, Arc3, -, Sc3, Mc3, -, -⟩ := id V1
  obtain ⟨T4, X4, e4, st4⟩ := getF X2 hx hZ hown (host := "") (Or.inl (ow hw 28 rfl)) Via.refl e2 F2 (g := (mkF m 18 #[.val (.ref r), .val .null, .val (.double dv), .second, .unset] [(.ref r), (.ref r)])) rfl rfl (hb hby d5_18)
  obtain ⟨cq5, q5, q5'⟩ := E1.cell
  obtain ⟨_, _, ⟨T5, L5, k5, n5⟩, -, X5, ⟨Lc5, hQ5, l5, y5, z5⟩, st5⟩ := X4.privateBack hx (y := (⟨oR, "slot", "(I)I"⟩ : MethodName)) hown (mvT hZ (ow hw 30 rfl)) (mvT hZ (ow hw 31 rfl)) (own_sel hZ (ow hw 6 rfl) (ow hw 32 rfl) (ow hw 31 rfl) (by decide)) (Cond.privateMethod_at (mvP hZ (ow hw 32 rfl) (args := #[]))) (mvT hZ (ow hw 33 rfl)) (by decide) (backOf (W := 0) (rm6 l Z a0 hw [] r sz tk fi kt h0 n0 Z0 F0 F4 V1) hZ (ow hw 33 rfl) (ow hw 7 rfl) (by decide) (by decide)) (g := (mkF m 21 #[.val (.ref r), .val .null, .val (.double dv), .second, .unset] [(.int sz), (.ref r)])) rfl (by rw [hml]; rfl) (Steps.refl _) (a := r) (by rw [e4]; exact q5) q5' (argsL := [(.int sz)]) (rest := []) (lenOf pd2 rfl) rfl (by show 2 * 0 + _ ≤ _; exact Nat.le_of_eq rfl) (hb hby d5_21) (fun _ _ => ⟨rfl, e4, (by decide : 0 + 0 ≤ _), (by decide : 0 + 0 ≤ _)⟩)
  dsimp only [Pt.U, Pt.locs, Pt.cells, Pt.slots] at X5 l5 y5 z5 st5 hQ5
  subst l5 y5 z5
  obtain ⟨rfl, N5q, e5⟩ := hQ5
  have N5 := Fr.app N0 N5q
  obtain ⟨T6, X6, e6, st6⟩ := getF X5 hx hZ hown (host := "") (Or.inl (ow hw 19 rfl)) Via.refl e5 F0 (g := (mkF m 27 #[.val (.ref r), .val .null, .val (.double dv), .second, .val (.int ((fi + sz) &&& (7 : Int32)))] [(.ref r)])) rfl rfl (hb hby d5_27)
  obtain ⟨c7, Arc7, qc7, Sc7, Mc7, Hc7, Gc7⟩ := id V1
  have hinc7 : ¬ (((fi + sz) &&& (7 : Int32)) < 0 ∨ c7.slots.size ≤ (((fi + sz) &&& (7 : Int32))).toNatClampNeg) := inb_of Sc7 (own_sl _)
  obtain ⟨T8, h8, X8, e8, W8, st8⟩ := stR X6 hx hZ e6 Arc7 (j := ((fi + sz) &&& (7 : Int32))) hinc7 rfl (Or.inl rfl) (g := (mkF m 33 #[.val (.ref r), .val .null, .val (.double dv), .second, .val (.int ((fi + sz) &&& (7 : Int32)))] [.null, (.int ((fi + sz) &&& (7 : Int32))), (.ref tk)])) rfl rfl (hb hby d5_33)
  have V8 : Arv Z h8 tk kt (.object oW) (8 : Int32) [] .null := own_nul V1 W8
  have Z9 : n0 ≤ h8.size := Nat.le_trans Z0 (Nat.le_of_eq W8.size.symm)
  have K10 : Keep h0 h8 [r, tk] := (Keep.refl h0 [r, tk]).wr W8 (Or.inl (List.mem_of_getElem? (i := 1) rfl))
  have N8 := Fr.snoc X8 N5 g2
  have fa11 : Fld Z h8 r oR "_mayBeLostAfterUs" "[D" .null := (F1.other W8 (Or.inl n1))
  obtain ⟨T12, X12, e12, st12⟩ := getF X8 hx hZ hown (host := "") (Or.inl (ow hw 21 rfl)) Via.refl e8 fa11 (g := (mkF m 35 #[.val (.ref r), .val .null, .val (.double dv), .second, .val (.int ((fi + sz) &&& (7 : Int32)))] [(.ref r)])) rfl rfl (hb hby d5_35)
  have fa13 : Fld Z h8 r oR "_size" "I" (.int sz) := (F2.other W8 (Or.inl n1))
  obtain ⟨T14, X14, e14, st14⟩ := getF X12 hx hZ hown (host := "") (Or.inl (ow hw 28 rfl)) Via.refl e12 fa13 (g := (mkF m 51 #[.val (.ref r), .val .null, .val (.double dv), .second, .val (.int ((fi + sz) &&& (7 : Int32)))] [(.ref r), (.ref r)])) rfl rfl (hb hby d5_51)
  have fa15 : Exa Z h8 r oR := (E1.wr W8)
  obtain ⟨T16, h16, X16, e16, W16, st16⟩ := putF X14 hx hZ hown (host := "") (Or.inl (ow hw 28 rfl)) Via.refl e14 fa13 fa15 (Or.inl (ow hw 29 rfl)) (ow hw 6 rfl) (ty := .int) (by decide) rfl rfl (g := (mkF m 56 #[.val (.ref r), .val .null, .val (.double dv), .second, .val (.int ((fi + sz) &&& (7 : Int32)))] [(.int (sz + (1 : Int32))), (.ref r)])) rfl rfl (hb hby d5_56)
  have fw16 : Fld Z h16 r oR "_size" "I" (.int (sz + (1 : Int32))) := fa13.same W16
  have Z17 : n0 ≤ h16.size := Nat.le_trans Z9 (Nat.le_of_eq W16.size.symm)
  have K18 : Keep h0 h16 [r, tk] := K10.wr W16 (Or.inl (List.mem_of_getElem? (i := 0) rfl))
  have N16 := Fr.snoc X16 N8 g1
  obtain ⟨fsZ, hrZ, hrun, hended, hW, hsame⟩ := X16.leave (v := none) (fun _ => rfl)
  have fa19 : Exa Z h16 r oR := (fa15.wr W16)
  have fa20 : Fld Z h16 r oR "_tasks" "[Lcom/example/portunus/portunus/policy/WaitingTask;" (.ref tk) := ((F0.other W8 (Or.inl n1)).other W16 (Or.inr (slot_ne (Or.inl (ow hw 20 rfl)) (Or.inl (ow hw 29 rfl)) (by decide) (t := (.array (.object oW))) (t' := .int) (by decide) (by decide))))
  have fa21 : Fld Z h16 r oR "_mayBeLostAfterUs" "[D" .null := (fa11.other W16 (Or.inr (slot_ne (Or.inl (ow hw 22 rfl)) (Or.inl (ow hw 29 rfl)) (by decide) (t := (.array .double)) (t' := .int) (by decide) (by decide))))
  have fa22 : Fld Z h16 r oR "_lostSlots" "I" (.int ls) := ((F3.other W8 (Or.inl n1)).other W16 (Or.inr (slot_ne (Or.inl (ow hw 44 rfl)) (Or.inl (ow hw 29 rfl)) (by decide) (t := .int) (t' := .int) (by decide) (by decide))))
  have fa23 : Fld Z h16 r oR "_first" "I" (.int fi) := ((F4.other W8 (Or.inl n1)).other W16 (Or.inr (slot_ne (Or.inl (ow hw 35 rfl)) (Or.inl (ow hw 29 rfl)) (by decide) (t := .int) (t' := .int) (by decide) (by decide))))
  have fa24 : Arv Z h16 tk kt (.object oW) (8 : Int32) [] .null := (V8.other W16 (Ne.symm n1))
  refine ⟨_, _, pre0 _ ?_, hrun, hended, _, _, rfl, ?_, ⟨_, rfl⟩, hW, hsame.mono (by decide) (by decide)⟩
  · show Steps p.tables e below (s₁.setTop (mkF m 0 #[.val (.ref r), .val .null, .val (.double dv), .second, .unset] [])) _
    refine XS.aloadN X0.here hx rfl (hb hby d5_0) rfl rfl ?_
    show Steps p.tables e below (s₁.setTop (mkF m 1 #[.val (.ref r), .val .null, .val (.double dv), .second, .unset] [(.ref r)])) _
    refine st1 _ ?_
    show Steps p.tables e below (T1.setTop (mkF m 4 #[.val (.ref r), .val .null, .val (.double dv), .second, .unset] [(.int sz)])) _
    refine XS.aloadN X1.here hx rfl (hb hby d5_4) rfl rfl ?_
    show Steps p.tables e below (T1.setTop (mkF m 5 #[.val (.ref r), .val .null, .val (.double dv), .second, .unset] [(.ref r), (.int sz)])) _
    refine st2 _ ?_
    show Steps p.tables e below (T2.setTop (mkF m 8 #[.val (.ref r), .val .null, .val (.double dv), .second, .unset] [(.ref tk), (.int sz)])) _
    refine X2.arraylength hx (by rw [e2]; exact Arc3.1) (State.isArrayOf_alike hZ.alike Arc3.2.1) (g := (mkF m 8 #[.val (.ref r), .val .null, .val (.double dv), .second, .unset] [(.ref tk), (.int sz)])) rfl rfl (hb hby d5_8) _ ?_
    rw [len_of Sc3 Mc3]
    show Steps p.tables e below (T2.setTop (mkF m 9 #[.val (.ref r), .val .null, .val (.double dv), .second, .unset] [(.int (8 : Int32)), (.int sz)])) _
    refine XS.icmpYes X2.here hx rfl (pc0 := 9) (pc' := 16) rfl (hb hby d5_9) rfl (feq hs).2 (by decide) (by decide) ?_
    show Steps p.tables e below (T2.setTop (mkF m 16 #[.val (.ref r), .val .null, .val (.double dv), .second, .unset] [])) _
    refine XS.aloadN X2.here hx rfl (hb hby d5_16) rfl rfl ?_
    show Steps p.tables e below (T2.setTop (mkF m 17 #[.val (.ref r), .val .null, .val (.double dv), .second, .unset] [(.ref r)])) _
    refine XS.aloadN X2.here hx rfl (hb hby d5_17) rfl rfl ?_
    show Steps p.tables e below (T2.setTop (mkF m 18 #[.val (.ref r), .val .null, .val (.double dv), .second, .unset] [(.ref r), (.ref r)])) _
    refine st4 _ ?_
    show Steps p.tables e below (T4.setTop (mkF m 21 #[.val (.ref r), .val .null, .val (.double dv), .second, .unset] [(.int sz), (.ref r)])) _
    refine st5.trans ?_
    show Steps p.tables e below (T5.setTop (mkF m 24 #[.val (.ref r), .val .null, .val (.double dv), .second, .unset] [(.int ((fi + sz) &&& (7 : Int32)))])) _
    refine XS.istore X5.here hx rfl (hb hby d5_24) rfl (l' := #[.val (.ref r), .val .null, .val (.double dv), .second, .val (.int ((fi + sz) &&& (7 : Int32)))]) rfl ?_
    show Steps p.tables e below (T5.setTop (mkF m 26 #[.val (.ref r), .val .null, .val (.double dv), .second, .val (.int ((fi + sz) &&& (7 : Int32)))] [])) _
    refine XS.aloadN X5.here hx rfl (hb hby d5_26) rfl rfl ?_
    show Steps p.tables e below (T5.setTop (mkF m 27 #[.val (.ref r), .val .null, .val (.double dv), .second, .val (.int ((fi + sz) &&& (7 : Int32)))] [(.ref r)])) _
    refine st6 _ ?_
    show Steps p.tables e below (T6.setTop (mkF m 30 #[.val (.ref r), .val .null, .val (.double dv), .second, .val (.int ((fi + sz) &&& (7 : Int32)))] [(.ref tk)])) _
    refine XS.iload X6.here hx rfl (hb hby d5_30) rfl  ?_
    show Steps p.tables e below (T6.setTop (mkF m 32 #[.val (.ref r), .val .null, .val (.double dv), .second, .val (.int ((fi + sz) &&& (7 : Int32)))] [(.int ((fi + sz) &&& (7 : Int32))), (.ref tk)])) _
    refine XS.aloadN X6.here hx rfl (hb hby d5_32) rfl rfl ?_
    show Steps p.tables e below (T6.setTop (mkF m 33 #[.val (.ref r), .val .null, .val (.double dv), .second, .val (.int ((fi + sz) &&& (7 : Int32)))] [.null, (.int ((fi + sz) &&& (7 : Int32))), (.ref tk)])) _
    refine st8 _ ?_
    show Steps p.tables e below (T8.setTop (mkF m 34 #[.val (.ref r), .val .null, .val (.double dv), .second, .val (.int ((fi + sz) &&& (7 : Int32)))] [])) _
    refine XS.aloadN X8.here hx rfl (hb hby d5_34) rfl rfl ?_
    show Steps p.tables e below (T8.setTop (mkF m 35 #[.val (.ref r), .val .null, .val (.double dv), .second, .val (.int ((fi + sz) &&& (7 : Int32)))] [(.ref r)])) _
    refine st12 _ ?_
    show Steps p.tables e below (T12.setTop (mkF m 38 #[.val (.ref r), .val .null, .val (.double dv), .second, .val (.int ((fi + sz) &&& (7 : Int32)))] [.null])) _
    refine XS.ifnullYes X12.here hx rfl (pc0 := 38) (pc' := 49) rfl (hb hby d5_38) rfl (by decide) (by decide) ?_
    show Steps p.tables e below (T12.setTop (mkF m 49 #[.val (.ref r), .val .null, .val (.double dv), .second, .val (.int ((fi + sz) &&& (7 : Int32)))] [])) _
    refine XS.aloadN X12.here hx rfl (hb hby d5_49) rfl rfl ?_
    show Steps p.tables e below (T12.setTop (mkF m 50 #[.val (.ref r), .val .null, .val (.double dv), .second, .val (.int ((fi + sz) &&& (7 : Int32)))] [(.ref r)])) _
    refine XS.dup X12.here hx rfl (hb hby d5_50) rfl rfl ?_
    show Steps p.tables e below (T12.setTop (mkF m 51 #[.val (.ref r), .val .null, .val (.double dv), .second, .val (.int ((fi + sz) &&& (7 : Int32)))] [(.ref r), (.ref r)])) _
    refine st14 _ ?_
    show Steps p.tables e below (T14.setTop (mkF m 54 #[.val (.ref r), .val .null, .val (.double dv), .second, .val (.int ((fi + sz) &&& (7 : Int32)))] [(.int sz), (.ref r)])) _
    refine XS.iconst X14.here hx rfl (hb hby d5_54) ?_
    show Steps p.tables e below (T14.setTop (mkF m 55 #[.val (.ref r), .val .null, .val (.double dv), .second, .val (.int ((fi + sz) &&& (7 : Int32)))] [(.int (1 : Int32)), (.int sz), (.ref r)])) _
    refine XS.iadd X14.here hx rfl (hb hby d5_55) rfl ?_
    show Steps p.tables e below (T14.setTop (mkF m 56 #[.val (.ref r), .val .null, .val (.double dv), .second, .val (.int ((fi + sz) &&& (7 : Int32)))] [(.int (sz + (1 : Int32))), (.ref r)])) _
    refine st16 _ ?_
    show Steps p.tables e below (T16.setTop (mkF m 59 #[.val (.ref r), .val .null, .val (.double dv), .second, .val (.int ((fi + sz) &&& (7 : Int32)))] [])) _
    exact X16.returnOut hx Bd.returns (hb hby d5_59) hrZ
  · show Q5n Z r dv tk sz ls fi kt h0 n0 _ T16.heap _
    rw [e16]
    exact ⟨rfl, N16, K18, fa19, fa20, fa21, fw16, fa22, fa23, fa24⟩
theorem d9_0 : decode prog_68_method_15_code 0 = .ok (.aload_n 0, 1) := by decide +kernel
theorem d9_1 : decode prog_68_method_15_code 1 = .ok (.dup, 1) := by decide +kernel
theorem d9_2 : decode prog_68_method_15_code 2 = .ok (.getfield 21, 3) := by decide +kernel
theorem d9_5 : decode prog_68_method_15_code 5 = .ok (.iconst 1, 1) := by decide +kernel
theorem d9_6 : decode prog_68_method_15_code 6 = .ok (.iadd, 1) := by decide +kernel
theorem d9_7 : decode prog_68_method_15_code 7 = .ok (.putfield 21, 3) := by decide +kernel
theorem d9_10 : decode prog_68_method_15_code 10 = .ok (.return_, 1) := by decide +kernel
theorem ef9n (m : MethodId) (r : Addr) : entryFrame m #[(.ref r)] 1 = mkF m 0 #[.val (.ref r)] [] := by first | (simp [entryFrame, mkF, argsToLocals, Value.category]; done) | rfl
def Q9n (Z : State) (r : Addr) (tk : Addr) (sz : Int32) (ls : Int32) (fi : Int32) (kt : ClassId) (h0 : Heap) (n0 : Nat) (v : Option Value) (h : Heap) (L : List Loc) : Prop := v = none ∧ Fr n0 L ∧ Keep h0 h [r, tk] ∧ Exa Z h r oR ∧ Fld Z h r oR "_tasks" "[Lcom/example/portunus/portunus/policy/WaitingTask;" (.ref tk) ∧ Fld Z h r oR "_mayBeLostAfterUs" "[D" .null ∧ Fld Z h r oR "_size" "I" (.int sz) ∧ Fld Z h r oR "_lostSlots" "I" (.int (ls + (1 : Int32))) ∧ Fld Z h r oR "_first" "I" (.int fi) ∧ Arv Z h tk kt (.object oW) (8 : Int32) [] .null
set_option maxRecDepth 65536 in
set_option maxHeartbeats 40000000 in
theorem rm9n (l : Launch) (Z : State) (a0 : Array Value) (hw : ∀ d ∈ tables_1, d.before a0 Z = true) (ws : List Jvm.Cond) (r : Addr) (tk : Addr) (sz : Int32) (ls : Int32) (fi : Int32) (kt : ClassId) (h0 : Heap) (n0 : Nat) (Z0 : n0 ≤ h0.size) (E1 : Exa Z h0 r oR) (F0 : Fld Z h0 r oR "_tasks" "[Lcom/example/portunus/portunus/policy/WaitingTask;" (.ref tk)) (F1 : Fld Z h0 r oR "_mayBeLostAfterUs" "[D" .null) (F2 : Fld Z h0 r oR "_size" "I" (.int sz)) (F3 : Fld Z h0 r oR "_lostSlots" "I" (.int ls)) (F4 : Fld Z h0 r oR "_first" "I" (.int fi)) (V1 : Arv Z h0 tk kt (.object oW) (8 : Int32) [] .null) (g1 : n0 ≤ r) (g2 : n0 ≤ tk) (n1 : r ≠ tk) :
    MetFree l (⟨oR, "markFirstOtherLost", "()V"⟩ : MethodName) (head1 (Jvm.Cond.code (⟨oR, "markFirstOtherLost", "()V"⟩ : MethodName) prog_68_method_15_code 1 none :: ws) ({ frames := 0, cells := 0, slots := 0, locals := 0 } : Room)) (fun a U => a = #[(.ref r)] ∧ Z.Warmed39 U.vm ∧ U.heap = h0) (fun _ _ _ _ _ => True) (fun _ U o U' => ∃ v L, o = .returned v ∧ Q9n Z r tk sz ls fi kt h0 n0 v U'.heap L ∧ FrameEnd U o U' L ({ frames := 0, cells := 0, slots := 0, locals := 0 } : Room).cells ({ frames := 0, cells := 0, slots := 0, locals := 0 } : Room).slots) := by
  refine MetFree.of_bodySF (plainFor_of_name pn0) hisR ?_
  intro p e s m args below meth c s₁ Bd hml0 hP hK
  obtain ⟨rfl, hZ, hh⟩ := hP
  have hx := Bd.exec
  have hby := Bd.bytes
  have hml : c.maxLocals = 1 := hml0
  have hown : s.vm.findClass oR = some m.cls := findClass_of_methodNamed Bd.named
  have hnm := (name_of_methodNamed Bd.named Bd.method).1
  have X0 : Stand p l e ({ frames := 0, cells := 0, slots := 0, locals := 0 } : Room) s m #[(.ref r)] below meth c s₁ [] 0 0 := Stand.of_body Bd
  have e0 : s₁.heap = h0 := by rw [← hh, Bd.state]; rfl
  have N0 := Fr.nil n0
  have pre0 : ∀ tZ, Steps p.tables e below (s₁.setTop (mkF m 0 #[.val (.ref r)] [])) tZ → Steps p.tables e below (s₁.setTop (entryFrame m #[(.ref r)] 1)) tZ := fun tZ kZ => castTop (ef9n m r) kZ
  obtain ⟨T1, X1, e1, st1⟩ := getF X0 hx hZ hown (host := "") (Or.inl (ow hw 43 rfl)) Via.refl e0 F3 (g := (mkF m 2 #[.val (.ref r)] [(.ref r), (.ref r)])) rfl rfl (hb hby d9_2)
  obtain ⟨T2, h2, X2, e2, W2, st2⟩ := putF X1 hx hZ hown (host := "") (Or.inl (ow hw 43 rfl)) Via.refl e1 F3 E1 (Or.inl (ow hw 44 rfl)) (ow hw 6 rfl) (ty := .int) (by decide) rfl rfl (g := (mkF m 7 #[.val (.ref r)] [(.int (ls + (1 : Int32))), (.ref r)])) rfl rfl (hb hby d9_7)
  have fw2 : Fld Z h2 r oR "_lostSlots" "I" (.int (ls + (1 : Int32))) := F3.same W2
  have Z3 : n0 ≤ h2.size := Nat.le_trans Z0 (Nat.le_of_eq W2.size.symm)
  have K4 : Keep h0 h2 [r, tk] := (Keep.refl h0 [r, tk]).wr W2 (Or.inl (List.mem_of_getElem? (i := 0) rfl))
  have N2 := Fr.snoc X2 N0 g1
  obtain ⟨fsZ, hrZ, hrun, hended, hW, hsame⟩ := X2.leave (v := none) (fun _ => rfl)
  have fa5 : Exa Z h2 r oR := (E1.wr W2)
  have fa6 : Fld Z h2 r oR "_tasks" "[Lcom/example/portunus/portunus/policy/WaitingTask;" (.ref tk) := (F0.other W2 (Or.inr (slot_ne (Or.inl (ow hw 20 rfl)) (Or.inl (ow hw 44 rfl)) (by decide) (t := (.array (.object oW))) (t' := .int) (by decide) (by decide))))
  have fa7 : Fld Z h2 r oR "_mayBeLostAfterUs" "[D" .null := (F1.other W2 (Or.inr (slot_ne (Or.inl (ow hw 22 rfl)) (Or.inl (ow hw 44 rfl)) (by decide) (t := (.array .double)) (t' := .int) (by decide) (by decide))))
  have fa8 : Fld Z h2 r oR "_size" "I" (.int sz) := (F2.other W2 (Or.inr (slot_ne (Or.inl (ow hw 29 rfl)) (Or.inl (ow hw 44 rfl)) (by decide) (t := .int) (t' := .int) (by decide) (by decide))))
  have fa9 : Fld Z h2 r oR "_first" "I" (.int fi) := (F4.other W2 (Or.inr (slot_ne (Or.inl (ow hw 35 rfl)) (Or.inl (ow hw 44 rfl)) (by decide) (t := .int) (t' := .int) (by decide) (by decide))))
  have fa10 : Arv Z h2 tk kt (.object oW) (8 : Int32) [] .null := (V1.other W2 (Ne.symm n1))
  refine ⟨_, _, pre0 _ ?_, hrun, hended, _, _, rfl, ?_, ⟨_, rfl⟩, hW, hsame.mono (by decide) (by decide)⟩
  · show Steps p.tables e below (s₁.setTop (mkF m 0 #[.val (.ref r)] [])) _
    refine XS.aloadN X0.here hx rfl (hb hby d9_0) rfl rfl ?_
    show Steps p.tables e below (s₁.setTop (mkF m 1 #[.val (.ref r)] [(.ref r)])) _
    refine XS.dup X0.here hx rfl (hb hby d9_1) rfl rfl ?_
    show Steps p.tables e below (s₁.setTop (mkF m 2 #[.val (.ref r)] [(.ref r), (.ref r)])) _
    refine st1 _ ?_
    show Steps p.tables e below (T1.setTop (mkF m 5 #[.val (.ref r)] [(.int ls), (.ref r)])) _
    refine XS.iconst X1.here hx rfl (hb hby d9_5) ?_
    show Steps p.tables e below (T1.setTop (mkF m 6 #[.val (.ref r)] [(.int (1 : Int32)), (.int ls), (.ref r)])) _
    refine XS.iadd X1.here hx rfl (hb hby d9_6) rfl ?_
    show Steps p.tables e below (T1.setTop (mkF m 7 #[.val (.ref r)] [(.int (ls + (1 : Int32))), (.ref r)])) _
    refine st2 _ ?_
    show Steps p.tables e below (T2.setTop (mkF m 10 #[.val (.ref r)] [])) _
    exact X2.returnOut hx Bd.returns (hb hby d9_10) hrZ
  · show Q9n Z r tk sz ls fi kt h0 n0 _ T2.heap _
    rw [e2]
    exact ⟨rfl, N2, K4, fa5, fa6, fa7, fa8, fw2, fa9, fa10⟩
theorem d11_0 : decode prog_68_method_16_code 0 = .ok (.aload_n 0, 1) := by decide +kernel
theorem d11_1 : decode prog_68_method_16_code 1 = .ok (.aload_n 0, 1) := by decide +kernel
theorem d11_2 : decode prog_68_method_16_code 2 = .ok (.getfield 21, 3) := by decide +kernel
theorem d11_5 : decode prog_68_method_16_code 5 = .ok (.invokevirtual 28, 3) := by decide +kernel
theorem d11_8 : decode prog_68_method_16_code 8 = .ok (.istore_n 1, 1) := by decide +kernel
theorem d11_9 : decode prog_68_method_16_code 9 = .ok (.aload_n 0, 1) := by decide +kernel
theorem d11_10 : decode prog_68_method_16_code 10 = .ok (.getfield 13, 3) := by decide +kernel
theorem d11_13 : decode prog_68_method_16_code 13 = .ok (.iload_n 1, 1) := by decide +kernel
theorem d11_14 : decode prog_68_method_16_code 14 = .ok (.aaload, 1) := by decide +kernel
theorem d11_15 : decode prog_68_method_16_code 15 = .ok (.astore_n 2, 1) := by decide +kernel
theorem d11_16 : decode prog_68_method_16_code 16 = .ok (.aload_n 0, 1) := by decide +kernel
theorem d11_17 : decode prog_68_method_16_code 17 = .ok (.getfield 13, 3) := by decide +kernel
theorem d11_20 : decode prog_68_method_16_code 20 = .ok (.iload_n 1, 1) := by decide +kernel
theorem d11_21 : decode prog_68_method_16_code 21 = .ok (.aconst_null, 1) := by decide +kernel
theorem d11_22 : decode prog_68_method_16_code 22 = .ok (.aastore, 1) := by decide +kernel
theorem d11_23 : decode prog_68_method_16_code 23 = .ok (.aload_n 0, 1) := by decide +kernel
theorem d11_24 : decode prog_68_method_16_code 24 = .ok (.getfield 21, 3) := by decide +kernel
theorem d11_27 : decode prog_68_method_16_code 27 = .ok (.ifCond .ne 25, 3) := by decide +kernel
theorem d11_30 : decode prog_68_method_16_code 30 = .ok (.aload_n 0, 1) := by decide +kernel
theorem d11_31 : decode prog_68_method_16_code 31 = .ok (.aload_n 0, 1) := by decide +kernel
theorem d11_32 : decode prog_68_method_16_code 32 = .ok (.iconst 1, 1) := by decide +kernel
theorem d11_33 : decode prog_68_method_16_code 33 = .ok (.invokevirtual 28, 3) := by decide +kernel
theorem d11_36 : decode prog_68_method_16_code 36 = .ok (.putfield 32, 3) := by decide +kernel
theorem d11_39 : decode prog_68_method_16_code 39 = .ok (.aload_n 0, 1) := by decide +kernel
theorem d11_40 : decode prog_68_method_16_code 40 = .ok (.dup, 1) := by decide +kernel
theorem d11_41 : decode prog_68_method_16_code 41 = .ok (.getfield 25, 3) := by decide +kernel
theorem d11_44 : decode prog_68_method_16_code 44 = .ok (.iconst 1, 1) := by decide +kernel
theorem d11_45 : decode prog_68_method_16_code 45 = .ok (.isub, 1) := by decide +kernel
theorem d11_46 : decode prog_68_method_16_code 46 = .ok (.putfield 25, 3) := by decide +kernel
theorem d11_49 : decode prog_68_method_16_code 49 = .ok (.goto 13, 3) := by decide +kernel
theorem d11_62 : decode prog_68_method_16_code 62 = .ok (.aload_n 2, 1) := by decide +kernel
theorem d11_63 : decode prog_68_method_16_code 63 = .ok (.areturn, 1) := by decide +kernel
theorem ef11zn (m : MethodId) (r : Addr) : entryFrame m #[(.ref r)] 3 = mkF m 0 #[.val (.ref r), .unset, .unset] [] := by first | (simp [entryFrame, mkF, argsToLocals, Value.category]; done) | rfl
def Q11zn (Z : State) (r : Addr) (tk : Addr) (sz : Int32) (ls : Int32) (fi : Int32) (kt : ClassId) (h0 : Heap) (n0 : Nat) (v : Option Value) (h : Heap) (L : List Loc) : Prop := ∃ (fn : Int32), v = some .null ∧ Fr n0 L ∧ Keep h0 h [r, tk] ∧ Exa Z h r oR ∧ Fld Z h r oR "_tasks" "[Lcom/example/portunus/portunus/policy/WaitingTask;" (.ref tk) ∧ Fld Z h r oR "_mayBeLostAfterUs" "[D" .null ∧ Fld Z h r oR "_size" "I" (.int (sz - (1 : Int32))) ∧ Fld Z h r oR "_lostSlots" "I" (.int ls) ∧ Fld Z h r oR "_first" "I" (.int fn) ∧ Arv Z h tk kt (.object oW) (8 : Int32) [] .null
set_option maxRecDepth 65536 in
set_option maxHeartbeats 40000000 in
theorem rm11zn (l : Launch) (Z : State) (a0 : Array Value) (hw : ∀ d ∈ tables_1, d.before a0 Z = true) (ws : List Jvm.Cond) (r : Addr) (tk : Addr) (sz : Int32) (ls : Int32) (fi : Int32) (kt : ClassId) (h0 : Heap) (n0 : Nat) (Z0 : n0 ≤ h0.size) (E1 : Exa Z h0 r oR) (F0 : Fld Z h0 r oR "_tasks" "[Lcom/example/portunus/portunus/policy/WaitingTask;" (.ref tk)) (F1 : Fld Z h0 r oR "_mayBeLostAfterUs" "[D" .null) (F2 : Fld Z h0 r oR "_size" "I" (.int sz)) (F3 : Fld Z h0 r oR "_lostSlots" "I" (.int ls)) (F4 : Fld Z h0 r oR "_first" "I" (.int fi)) (V1 : Arv Z h0 tk kt (.object oW) (8 : Int32) [] .null) (g1 : n0 ≤ r) (g2 : n0 ≤ tk) (n1 : r ≠ tk) (hl : ls = (0 : Int32)) :
    MetFree l (⟨oR, "pollFirstOther", "()Lcom/example/portunus/portunus/policy/WaitingTask;"⟩ : MethodName) (head1 (Jvm.Cond.code (⟨oR, "pollFirstOther", "()Lcom/example/portunus/portunus/policy/WaitingTask;"⟩ : MethodName) prog_68_method_16_code 3 (some (.object oW)) :: ws) ({ frames := 1, cells := 0, slots := 0, locals := 14 } : Room)) (fun a U => a = #[(.ref r)] ∧ Z.Warmed39 U.vm ∧ U.heap = h0) (fun _ _ _ _ _ => True) (fun _ U o U' => ∃ v L, o = .returned v ∧ Q11zn Z r tk sz ls fi kt h0 n0 v U'.heap L ∧ FrameEnd U o U' L ({ frames := 1, cells := 0, slots := 0, locals := 14 } : Room).cells ({ frames := 1, cells := 0, slots := 0, locals := 14 } : Room).slots) := by
  refine MetFree.of_bodySF (plainFor_of_name pn0) hisR ?_
  intro p e s m args below meth c s₁ Bd hml0 hP hK
  obtain ⟨rfl, hZ, hh⟩ := hP
  have hx := Bd.exec
  have hby := Bd.bytes
  have hml : c.maxLocals = 3 := hml0
  have hown : s.vm.findClass oR = some m.cls := findClass_of_methodNamed Bd.named
  have hnm := (name_of_methodNamed Bd.named Bd.method).1
  have X0 : Stand p l e ({ frames := 1, cells := 0, slots := 0, locals := 14 } : Room) s m #[(.ref r)] below meth c s₁ [] 0 0 := Stand.of_body Bd
  have e0 : s₁.heap = h0 := by rw [← hh, Bd.state]; rfl
  have N0 := Fr.nil n0
  have pre0 : ∀ tZ, Steps p.tables e below (s₁.setTop (mkF m 0 #[.val (.ref r), .unset, .unset] [])) tZ → Steps p.tables e below (s₁.setTop (entryFrame m #[(.ref r)] 3)) tZ := fun tZ kZ => castTop (ef11zn m r) kZ
  obtain ⟨T1, X1, e1, st1⟩ := getF X0 hx hZ hown (host := "") (Or.inl (ow hw 43 rfl)) Via.refl e0 F3 (g := (mkF m 2 #[.val (.ref r), .unset, .unset] [(.ref r), (.ref r)])) rfl rfl (hb hby d11_2)
  obtain ⟨cq2, q2, q2'⟩ := E1.cell
  obtain ⟨_, _, ⟨T2, L2, k2, n2⟩, -, X2, ⟨Lc2, hQ2, l2, y2, z2⟩, st2⟩ := X1.privateBack hx (y := (⟨oR, "slot", "(I)I"⟩ : MethodName)) hown (mvT hZ (ow hw 30 rfl)) (mvT hZ (ow hw 31 rfl)) (own_sel hZ (ow hw 6 rfl) (ow hw 32 rfl) (ow hw 31 rfl) (by decide)) (Cond.privateMethod_at (mvP hZ (ow hw 32 rfl) (args := #[]))) (mvT hZ (ow hw 33 rfl)) (by decide) (backOf (W := 0) (rm6 l Z a0 hw [] r ls tk fi kt h0 n0 Z0 F0 F4 V1) hZ (ow hw 33 rfl) (ow hw 7 rfl) (by decide) (by decide)) (g := (mkF m 5 #[.val (.ref r), .unset, .unset] [(.int ls), (.ref r)])) rfl (by rw [hml]; rfl) (Steps.refl _) (a := r) (by rw [e1]; exact q2) q2' (argsL := [(.int ls)]) (rest := []) (lenOf pd2 rfl) rfl (by show 2 * 0 + _ ≤ _; exact Nat.le_of_eq rfl) (hb hby d11_5) (fun _ _ => ⟨rfl, e1, (by decide : 0 + 0 ≤ _), (by decide : 0 + 0 ≤ _)⟩)
  dsimp only [Pt.U, Pt.locs, Pt.cells, Pt.slots] at X2 l2 y2 z2 st2 hQ2
  subst l2 y2 z2
  obtain ⟨rfl, N2q, e2⟩ := hQ2
  have N2 := Fr.app N0 N2q
  obtain ⟨T3, X3, e3, st3⟩ := getF X2 hx hZ hown (host := "") (Or.inl (ow hw 19 rfl)) Via.refl e2 F0 (g := (mkF m 10 #[.val (.ref r), .val (.int ((fi + ls) &&& (7 : Int32))), .unset] [(.ref r)])) rfl rfl (hb hby d11_10)
  obtain ⟨c4, Arc4, qc4, Sc4, Mc4, Hc4, Gc4⟩ := id V1
  have hinc4 : ¬ (((fi + ls) &&& (7 : Int32)) < 0 ∨ c4.slots.size ≤ (((fi + ls) &&& (7 : Int32))).toNatClampNeg) := inb_of Sc4 (own_sl _)
  have hatc4 : c4.slots[(((fi + ls) &&& (7 : Int32))).toNatClampNeg]? = some .null := Hc4.at hinc4 (by simp)
  obtain ⟨T5, X5, e5, st5⟩ := getF X3 hx hZ hown (host := "") (Or.inl (ow hw 19 rfl)) Via.refl e3 F0 (g := (mkF m 17 #[.val (.ref r), .val (.int ((fi + ls) &&& (7 : Int32))), .val .null] [(.ref r)])) rfl rfl (hb hby d11_17)
  obtain ⟨c6, Arc6, qc6, Sc6, Mc6, Hc6, Gc6⟩ := id V1
  have hinc6 : ¬ (((fi + ls) &&& (7 : Int32)) < 0 ∨ c6.slots.size ≤ (((fi + ls) &&& (7 : Int32))).toNatClampNeg) := inb_of Sc6 (own_sl _)
  obtain ⟨T7, h7, X7, e7, W7, st7⟩ := stR X5 hx hZ e5 Arc6 (j := ((fi + ls) &&& (7 : Int32))) hinc6 rfl (Or.inl rfl) (g := (mkF m 22 #[.val (.ref r), .val (.int ((fi + ls) &&& (7 : Int32))), .val .null] [.null, (.int ((fi + ls) &&& (7 : Int32))), (.ref tk)])) rfl rfl (hb hby d11_22)
  have V7 : Arv Z h7 tk kt (.object oW) (8 : Int32) [] .null := own_nul V1 W7
  have Z8 : n0 ≤ h7.size := Nat.le_trans Z0 (Nat.le_of_eq W7.size.symm)
  have K9 : Keep h0 h7 [r, tk] := (Keep.refl h0 [r, tk]).wr W7 (Or.inl (List.mem_of_getElem? (i := 1) rfl))
  have N7 := Fr.snoc X7 N2 g2
  have fa10 : Fld Z h7 r oR "_lostSlots" "I" (.int ls) := (F3.other W7 (Or.inl n1))
  obtain ⟨T11, X11, e11, st11⟩ := getF X7 hx hZ hown (host := "") (Or.inl (ow hw 43 rfl)) Via.refl e7 fa10 (g := (mkF m 24 #[.val (.ref r), .val (.int ((fi + ls) &&& (7 : Int32))), .val .null] [(.ref r)])) rfl rfl (hb hby d11_24)
  have fa12 : Fld Z h7 r oR "_tasks" "[Lcom/example/portunus/portunus/policy/WaitingTask;" (.ref tk) := (F0.other W7 (Or.inl n1))
  have fa13 : Fld Z h7 r oR "_first" "I" (.int fi) := (F4.other W7 (Or.inl n1))
  have fa15 : Exa Z h7 r oR := (E1.wr W7)
  obtain ⟨cq14, q14, q14'⟩ := fa15.cell
  obtain ⟨_, _, ⟨T14, L14, k14, n14⟩, -, X14, ⟨Lc14, hQ14, l14, y14, z14⟩, st14⟩ := X11.privateBack hx (y := (⟨oR, "slot", "(I)I"⟩ : MethodName)) hown (mvT hZ (ow hw 30 rfl)) (mvT hZ (ow hw 31 rfl)) (own_sel hZ (ow hw 6 rfl) (ow hw 32 rfl) (ow hw 31 rfl) (by decide)) (Cond.privateMethod_at (mvP hZ (ow hw 32 rfl) (args := #[]))) (mvT hZ (ow hw 33 rfl)) (by decide) (backOf (W := 1) (rm6 l Z a0 hw [] r (1 : Int32) tk fi kt h7 n0 Z8 fa12 fa13 V7) hZ (ow hw 33 rfl) (ow hw 7 rfl) (by decide) (by decide)) (g := (mkF m 33 #[.val (.ref r), .val (.int ((fi + ls) &&& (7 : Int32))), .val .null] [(.int (1 : Int32)), (.ref r), (.ref r)])) rfl (by rw [hml]; rfl) (Steps.refl _) (a := r) (by rw [e11]; exact q14) q14' (argsL := [(.int (1 : Int32))]) (rest := [(.ref r)]) (lenOf pd2 rfl) rfl (by show 2 * 0 + _ ≤ _; exact Nat.le_of_eq rfl) (hb hby d11_33) (fun _ _ => ⟨rfl, e11, (by decide : 0 + 0 ≤ _), (by decide : 0 + 0 ≤ _)⟩)
  dsimp only [Pt.U, Pt.locs, Pt.cells, Pt.slots] at X14 l14 y14 z14 st14 hQ14
  subst l14 y14 z14
  obtain ⟨rfl, N14q, e14⟩ := hQ14
  have N14 := Fr.app N7 N14q
  obtain ⟨T16, h16, X16, e16, W16, st16⟩ := putF X14 hx hZ hown (host := "") (Or.inl (ow hw 34 rfl)) Via.refl e14 fa13 fa15 (Or.inl (ow hw 35 rfl)) (ow hw 6 rfl) (ty := .int) (by decide) rfl rfl (g := (mkF m 36 #[.val (.ref r), .val (.int ((fi + ls) &&& (7 : Int32))), .val .null] [(.int ((fi + (1 : Int32)) &&& (7 : Int32))), (.ref r)])) rfl rfl (hb hby d11_36)
  have fw16 : Fld Z h16 r oR "_first" "I" (.int ((fi + (1 : Int32)) &&& (7 : Int32))) := fa13.same W16
  have Z17 : n0 ≤ h16.size := Nat.le_trans Z8 (Nat.le_of_eq W16.size.symm)
  have K18 : Keep h0 h16 [r, tk] := K9.wr W16 (Or.inl (List.mem_of_getElem? (i := 0) rfl))
  have N16 := Fr.snoc X16 N14 g1
  have fa19 : Fld Z h16 r oR "_size" "I" (.int sz) := ((F2.other W7 (Or.inl n1)).other W16 (Or.inr (slot_ne (Or.inl (ow hw 29 rfl)) (Or.inl (ow hw 35 rfl)) (by decide) (t := .int) (t' := .int) (by decide) (by decide))))
  obtain ⟨T20, X20, e20, st20⟩ := getF X16 hx hZ hown (host := "") (Or.inl (ow hw 28 rfl)) Via.refl e16 fa19 (g := (mkF m 41 #[.val (.ref r), .val (.int ((fi + ls) &&& (7 : Int32))), .val .null] [(.ref r), (.ref r)])) rfl rfl (hb hby d11_41)
  have fa21 : Exa Z h16 r oR := (fa15.wr W16)
  obtain ⟨T22, h22, X22, e22, W22, st22⟩ := putF X20 hx hZ hown (host := "") (Or.inl (ow hw 28 rfl)) Via.refl e20 fa19 fa21 (Or.inl (ow hw 29 rfl)) (ow hw 6 rfl) (ty := .int) (by decide) rfl rfl (g := (mkF m 46 #[.val (.ref r), .val (.int ((fi + ls) &&& (7 : Int32))), .val .null] [(.int (sz - (1 : Int32))), (.ref r)])) rfl rfl (hb hby d11_46)
  have fw22 : Fld Z h22 r oR "_size" "I" (.int (sz - (1 : Int32))) := fa19.same W22
  have Z23 : n0 ≤ h22.size := Nat.le_trans Z17 (Nat.le_of_eq W22.size.symm)
  have K24 : Keep h0 h22 [r, tk] := K18.wr W22 (Or.inl (List.mem_of_getElem? (i := 0) rfl))
  have N22 := Fr.snoc X22 N16 g1
  obtain ⟨fsZ, hrZ, hrun, hended, hW, hsame⟩ := X22.leave (v := some .null) (fun h => by rw [Bd.returns] at h; cases h)
  have fa25 : Exa Z h22 r oR := (fa21.wr W22)
  have fa26 : Fld Z h22 r oR "_tasks" "[Lcom/example/portunus/portunus/policy/WaitingTask;" (.ref tk) := ((fa12.other W16 (Or.inr (slot_ne (Or.inl (ow hw 20 rfl)) (Or.inl (ow hw 35 rfl)) (by decide) (t := (.array (.object oW))) (t' := .int) (by decide) (by decide)))).other W22 (Or.inr (slot_ne (Or.inl (ow hw 20 rfl)) (Or.inl (ow hw 29 rfl)) (by decide) (t := (.array (.object oW))) (t' := .int) (by decide) (by decide))))
  have fa27 : Fld Z h22 r oR "_mayBeLostAfterUs" "[D" .null := (((F1.other W7 (Or.inl n1)).other W16 (Or.inr (slot_ne (Or.inl (ow hw 22 rfl)) (Or.inl (ow hw 35 rfl)) (by decide) (t := (.array .double)) (t' := .int) (by decide) (by decide)))).other W22 (Or.inr (slot_ne (Or.inl (ow hw 22 rfl)) (Or.inl (ow hw 29 rfl)) (by decide) (t := (.array .double)) (t' := .int) (by decide) (by decide))))
  have fa28 : Fld Z h22 r oR "_lostSlots" "I" (.int ls) := ((fa10.other W16 (Or.inr (slot_ne (Or.inl (ow hw 44 rfl)) (Or.inl (ow hw 35 rfl)) (by decide) (t := .int) (t' := .int) (by decide) (by decide)))).other W22 (Or.inr (slot_ne (Or.inl (ow hw 44 rfl)) (Or.inl (ow hw 29 rfl)) (by decide) (t := .int) (t' := .int) (by decide) (by decide))))
  have fa29 : Fld Z h22 r oR "_first" "I" (.int ((fi + (1 : Int32)) &&& (7 : Int32))) := (fw16.other W22 (Or.inr (slot_ne (Or.inl (ow hw 35 rfl)) (Or.inl (ow hw 29 rfl)) (by decide) (t := .int) (t' := .int) (by decide) (by decide))))
  have fa30 : Arv Z h22 tk kt (.object oW) (8 : Int32) [] .null := ((V7.other W16 (Ne.symm n1)).other W22 (Ne.symm n1))
  refine ⟨_, _, pre0 _ ?_, hrun, hended, _, _, rfl, ?_, ⟨_, rfl⟩, hW, hsame.mono (by decide) (by decide)⟩
  · show Steps p.tables e below (s₁.setTop (mkF m 0 #[.val (.ref r), .unset, .unset] [])) _
    refine XS.aloadN X0.here hx rfl (hb hby d11_0) rfl rfl ?_
    show Steps p.tables e below (s₁.setTop (mkF m 1 #[.val (.ref r), .unset, .unset] [(.ref r)])) _
    refine XS.aloadN X0.here hx rfl (hb hby d11_1) rfl rfl ?_
    show Steps p.tables e below (s₁.setTop (mkF m 2 #[.val (.ref r), .unset, .unset] [(.ref r), (.ref r)])) _
    refine st1 _ ?_
    show Steps p.tables e below (T1.setTop (mkF m 5 #[.val (.ref r), .unset, .unset] [(.int ls), (.ref r)])) _
    refine st2.trans ?_
    show Steps p.tables e below (T2.setTop (mkF m 8 #[.val (.ref r), .unset, .unset] [(.int ((fi + ls) &&& (7 : Int32)))])) _
    refine XS.istoreN X2.here hx rfl (hb hby d11_8) rfl (l' := #[.val (.ref r), .val (.int ((fi + ls) &&& (7 : Int32))), .unset]) rfl ?_
    show Steps p.tables e below (T2.setTop (mkF m 9 #[.val (.ref r), .val (.int ((fi + ls) &&& (7 : Int32))), .unset] [])) _
    refine XS.aloadN X2.here hx rfl (hb hby d11_9) rfl rfl ?_
    show Steps p.tables e below (T2.setTop (mkF m 10 #[.val (.ref r), .val (.int ((fi + ls) &&& (7 : Int32))), .unset] [(.ref r)])) _
    refine st3 _ ?_
    show Steps p.tables e below (T3.setTop (mkF m 13 #[.val (.ref r), .val (.int ((fi + ls) &&& (7 : Int32))), .unset] [(.ref tk)])) _
    refine XS.iloadN X3.here hx rfl (hb hby d11_13) rfl  ?_
    show Steps p.tables e below (T3.setTop (mkF m 14 #[.val (.ref r), .val (.int ((fi + ls) &&& (7 : Int32))), .unset] [(.int ((fi + ls) &&& (7 : Int32))), (.ref tk)])) _
    refine X3.aaload hx (j := ((fi + ls) &&& (7 : Int32))) (v := .null) (by rw [e3]; exact Arc4.1) (State.isArrayOf_alike hZ.alike Arc4.2.1) rfl Arc4.2.2 hinc4 hatc4 (g := (mkF m 14 #[.val (.ref r), .val (.int ((fi + ls) &&& (7 : Int32))), .unset] [(.int ((fi + ls) &&& (7 : Int32))), (.ref tk)])) rfl rfl (hb hby d11_14) _ ?_
    show Steps p.tables e below (T3.setTop (mkF m 15 #[.val (.ref r), .val (.int ((fi + ls) &&& (7 : Int32))), .unset] [.null])) _
    refine XS.astoreN X3.here hx rfl (hb hby d11_15) rfl rfl (l' := #[.val (.ref r), .val (.int ((fi + ls) &&& (7 : Int32))), .val .null]) rfl ?_
    show Steps p.tables e below (T3.setTop (mkF m 16 #[.val (.ref r), .val (.int ((fi + ls) &&& (7 : Int32))), .val .null] [])) _
    refine XS.aloadN X3.here hx rfl (hb hby d11_16) rfl rfl ?_
    show Steps p.tables e below (T3.setTop (mkF m 17 #[.val (.ref r), .val (.int ((fi + ls) &&& (7 : Int32))), .val .null] [(.ref r)])) _
    refine st5 _ ?_
    show Steps p.tables e below (T5.setTop (mkF m 20 #[.val (.ref r), .val (.int ((fi + ls) &&& (7 : Int32))), .val .null] [(.ref tk)])) _
    refine XS.iloadN X5.here hx rfl (hb hby d11_20) rfl  ?_
    show Steps p.tables e below (T5.setTop (mkF m 21 #[.val (.ref r), .val (.int ((fi + ls) &&& (7 : Int32))), .val .null] [(.int ((fi + ls) &&& (7 : Int32))), (.ref tk)])) _
    refine XS.aconstNull X5.here hx rfl (hb hby d11_21) ?_
    show Steps p.tables e below (T5.setTop (mkF m 22 #[.val (.ref r), .val (.int ((fi + ls) &&& (7 : Int32))), .val .null] [.null, (.int ((fi + ls) &&& (7 : Int32))), (.ref tk)])) _
    refine st7 _ ?_
    show Steps p.tables e below (T7.setTop (mkF m 23 #[.val (.ref r), .val (.int ((fi + ls) &&& (7 : Int32))), .val .null] [])) _
    refine XS.aloadN X7.here hx rfl (hb hby d11_23) rfl rfl ?_
    show Steps p.tables e below (T7.setTop (mkF m 24 #[.val (.ref r), .val (.int ((fi + ls) &&& (7 : Int32))), .val .null] [(.ref r)])) _
    refine st11 _ ?_
    show Steps p.tables e below (T11.setTop (mkF m 27 #[.val (.ref r), .val (.int ((fi + ls) &&& (7 : Int32))), .val .null] [(.int ls)])) _
    refine XS.ifNo X11.here hx rfl (hb hby d11_27) rfl ((if0 _ _).trans (teq hl).2) ?_
    show Steps p.tables e below (T11.setTop (mkF m 30 #[.val (.ref r), .val (.int ((fi + ls) &&& (7 : Int32))), .val .null] [])) _
    refine XS.aloadN X11.here hx rfl (hb hby d11_30) rfl rfl ?_
    show Steps p.tables e below (T11.setTop (mkF m 31 #[.val (.ref r), .val (.int ((fi + ls) &&& (7 : Int32))), .val .null] [(.ref r)])) _
    refine XS.aloadN X11.here hx rfl (hb hby d11_31) rfl rfl ?_
    show Steps p.tables e below (T11.setTop (mkF m 32 #[.val (.ref r), .val (.int ((fi + ls) &&& (7 : Int32))), .val .null] [(.ref r), (.ref r)])) _
    refine XS.iconst X11.here hx rfl (hb hby d11_32) ?_
    show Steps p.tables e below (T11.setTop (mkF m 33 #[.val (.ref r), .val (.int ((fi + ls) &&& (7 : Int32))), .val .null] [(.int (1 : Int32)), (.ref r), (.ref r)])) _
    refine st14.trans ?_
    show Steps p.tables e below (T14.setTop (mkF m 36 #[.val (.ref r), .val (.int ((fi + ls) &&& (7 : Int32))), .val .null] [(.int ((fi + (1 : Int32)) &&& (7 : Int32))), (.ref r)])) _
    refine st16 _ ?_
    show Steps p.tables e below (T16.setTop (mkF m 39 #[.val (.ref r), .val (.int ((fi + ls) &&& (7 : Int32))), .val .null] [])) _
    refine XS.aloadN X16.here hx rfl (hb hby d11_39) rfl rfl ?_
    show Steps p.tables e below (T16.setTop (mkF m 40 #[.val (.ref r), .val (.int ((fi + ls) &&& (7 : Int32))), .val .null] [(.ref r)])) _
    refine XS.dup X16.here hx rfl (hb hby d11_40) rfl rfl ?_
    show Steps p.tables e below (T16.setTop (mkF m 41 #[.val (.ref r), .val (.int ((fi + ls) &&& (7 : Int32))), .val .null] [(.ref r), (.ref r)])) _
    refine st20 _ ?_
    show Steps p.tables e below (T20.setTop (mkF m 44 #[.val (.ref r), .val (.int ((fi + ls) &&& (7 : Int32))), .val .null] [(.int sz), (.ref r)])) _
    refine XS.iconst X20.here hx rfl (hb hby d11_44) ?_
    show Steps p.tables e below (T20.setTop (mkF m 45 #[.val (.ref r), .val (.int ((fi + ls) &&& (7 : Int32))), .val .null] [(.int (1 : Int32)), (.int sz), (.ref r)])) _
    refine XS.isub X20.here hx rfl (hb hby d11_45) rfl ?_
    show Steps p.tables e below (T20.setTop (mkF m 46 #[.val (.ref r), .val (.int ((fi + ls) &&& (7 : Int32))), .val .null] [(.int (sz - (1 : Int32))), (.ref r)])) _
    refine st22 _ ?_
    show Steps p.tables e below (T22.setTop (mkF m 49 #[.val (.ref r), .val (.int ((fi + ls) &&& (7 : Int32))), .val .null] [])) _
    refine XS.goto X22.here hx rfl (pc0 := 49) (pc' := 62) rfl (hb hby d11_49) (by decide) (by decide) ?_
    show Steps p.tables e below (T22.setTop (mkF m 62 #[.val (.ref r), .val (.int ((fi + ls) &&& (7 : Int32))), .val .null] [])) _
    refine XS.aloadN X22.here hx rfl (hb hby d11_62) rfl rfl ?_
    show Steps p.tables e below (T22.setTop (mkF m 63 #[.val (.ref r), .val (.int ((fi + ls) &&& (7 : Int32))), .val .null] [.null])) _
    jvm_step X22.here [X22.here.top, hx, (hb hby d11_63), X22.method', Bd.returns, Value.isRef, FieldType.isReference]
    first | (intro acts; rw [hrZ _ acts rfl rfl rfl]) | rw [hrZ _ _ rfl rfl rfl]
    exact Steps.refl _
  · show Q11zn Z r tk sz ls fi kt h0 n0 _ T22.heap _
    rw [e22]
    exact ⟨((fi + (1 : Int32)) &&& (7 : Int32)), rfl, N22, K24, fa25, fa26, fa27, fw22, fa28, fa29, fa30⟩
theorem d11_52 : decode prog_68_method_16_code 52 = .ok (.aload_n 0, 1) := by decide +kernel
theorem d11_53 : decode prog_68_method_16_code 53 = .ok (.dup, 1) := by decide +kernel
theorem d11_54 : decode prog_68_method_16_code 54 = .ok (.getfield 21, 3) := by decide +kernel
theorem d11_57 : decode prog_68_method_16_code 57 = .ok (.iconst 1, 1) := by decide +kernel
theorem d11_58 : decode prog_68_method_16_code 58 = .ok (.iadd, 1) := by decide +kernel
theorem d11_59 : decode prog_68_method_16_code 59 = .ok (.putfield 21, 3) := by decide +kernel
theorem ef11nn (m : MethodId) (r : Addr) : entryFrame m #[(.ref r)] 3 = mkF m 0 #[.val (.ref r), .unset, .unset] [] := by first | (simp [entryFrame, mkF, argsToLocals, Value.category]; done) | rfl
def Q11nn (Z : State) (r : Addr) (tk : Addr) (sz : Int32) (ls : Int32) (fi : Int32) (kt : ClassId) (h0 : Heap) (n0 : Nat) (v : Option Value) (h : Heap) (L : List Loc) : Prop := ∃ (fn : Int32), v = some .null ∧ Fr n0 L ∧ Keep h0 h [r, tk] ∧ Exa Z h r oR ∧ Fld Z h r oR "_tasks" "[Lcom/example/portunus/portunus/policy/WaitingTask;" (.ref tk) ∧ Fld Z h r oR "_mayBeLostAfterUs" "[D" .null ∧ Fld Z h r oR "_size" "I" (.int sz) ∧ Fld Z h r oR "_lostSlots" "I" (.int (ls + (1 : Int32))) ∧ Fld Z h r oR "_first" "I" (.int fn) ∧ Arv Z h tk kt (.object oW) (8 : Int32) [] .null
set_option maxRecDepth 65536 in
set_option maxHeartbeats 40000000 in
theorem rm11nn (l : Launch) (Z : State) (a0 : Array Value) (hw : ∀ d ∈ tables_1, d.before a0 Z = true) (ws : List Jvm.Cond) (r : Addr) (tk : Addr) (sz : Int32) (ls : Int32) (fi : Int32) (kt : ClassId) (h0 : Heap) (n0 : Nat) (Z0 : n0 ≤ h0.size) (E1 : Exa Z h0 r oR) (F0 : Fld Z h0 r oR "_tasks" "[Lcom/example/portunus/portunus/policy/WaitingTask;" (.ref tk)) (F1 : Fld Z h0 r oR "_mayBeLostAfterUs" "[D" .null) (F2 : Fld Z h0 r oR "_size" "I" (.int sz)) (F3 : Fld Z h0 r oR "_lostSlots" "I" (.int ls)) (F4 : Fld Z h0 r oR "_first" "I" (.int fi)) (V1 : Arv Z h0 tk kt (.object oW) (8 : Int32) [] .null) (g1 : n0 ≤ r) (g2 : n0 ≤ tk) (n1 : r ≠ tk) (hl : ¬ (ls = (0 : Int32))) :
    MetFree l (⟨oR, "pollFirstOther", "()Lcom/example/portunus/portunus/policy/WaitingTask;"⟩ : MethodName) (head1 (Jvm.Cond.code (⟨oR, "pollFirstOther", "()Lcom/example/portunus/portunus/policy/WaitingTask;"⟩ : MethodName) prog_68_method_16_code 3 (some (.object oW)) :: ws) ({ frames := 1, cells := 0, slots := 0, locals := 13 } : Room)) (fun a U => a = #[(.ref r)] ∧ Z.Warmed39 U.vm ∧ U.heap = h0) (fun _ _ _ _ _ => True) (fun _ U o U' => ∃ v L, o = .returned v ∧ Q11nn Z r tk sz ls fi kt h0 n0 v U'.heap L ∧ FrameEnd U o U' L ({ frames := 1, cells := 0, slots := 0, locals := 13 } : Room).cells ({ frames := 1, cells := 0, slots := 0, locals := 13 } : Room).slots) := by
  refine MetFree.of_bodySF (plainFor_of_name pn0) hisR ?_
  intro p e s m args below meth c s₁ Bd hml0 hP hK
  obtain ⟨rfl, hZ, hh⟩ := hP
  have hx := Bd.exec
  have hby := Bd.bytes
  have hml : c.maxLocals = 3 := hml0
  have hown : s.vm.findClass oR = some m.cls := findClass_of_methodNamed Bd.named
  have hnm := (name_of_methodNamed Bd.named Bd.method).1
  have X0 : Stand p l e ({ frames := 1, cells := 0, slots := 0, locals := 13 } : Room) s m #[(.ref r)] below meth c s₁ [] 0 0 := Stand.of_body Bd
  have e0 : s₁.heap = h0 := by rw [← hh, Bd.state]; rfl
  have N0 := Fr.nil n0
  have pre0 : ∀ tZ, Steps p.tables e below (s₁.setTop (mkF m 0 #[.val (.ref r), .unset, .unset] [])) tZ → Steps p.tables e below (s₁.setTop (entryFrame m #[(.ref r)] 3)) tZ := fun tZ kZ => castTop (ef11nn m r) kZ
  obtain ⟨T1, X1, e1, st1⟩ := getF X0 hx hZ hown (host := "") (Or.inl (ow hw 43 rfl)) Via.refl e0 F3 (g := (mkF m 2 #[.val (.ref r), .unset, .unset] [(.ref r), (.ref r)])) rfl rfl (hb hby d11_2)
  obtain ⟨cq2, q2, q2'⟩ := E1.cell
  obtain ⟨_, _, ⟨T2, L2, k2, n2⟩, -, X2, ⟨Lc2, hQ2, l2, y2, z2⟩, st2⟩ := X1.privateBack hx (y := (⟨oR, "slot", "(I)I"⟩ : MethodName)) hown (mvT hZ (ow hw 30 rfl)) (mvT hZ (ow hw 31 rfl)) (own_sel hZ (ow hw 6 rfl) (ow hw 32 rfl) (ow hw 31 rfl) (by decide)) (Cond.privateMethod_at (mvP hZ (ow hw 32 rfl) (args := #[]))) (mvT hZ (ow hw 33 rfl)) (by decide) (backOf (W := 0) (rm6 l Z a0 hw [] r ls tk fi kt h0 n0 Z0 F0 F4 V1) hZ (ow hw 33 rfl) (ow hw 7 rfl) (by decide) (by decide)) (g := (mkF m 5 #[.val (.ref r), .unset, .unset] [(.int ls), (.ref r)])) rfl (by rw [hml]; rfl) (Steps.refl _) (a := r) (by rw [e1]; exact q2) q2' (argsL := [(.int ls)]) (rest := []) (lenOf pd2 rfl) rfl (by show 2 * 0 + _ ≤ _; exact Nat.le_of_eq rfl) (hb hby d11_5) (fun _ _ => ⟨rfl, e1, (by decide : 0 + 0 ≤ _), (by decide : 0 + 0 ≤ _)⟩)
  dsimp only [Pt.U, Pt.locs, Pt.cells, Pt.slots] at X2 l2 y2 z2 st2 hQ2
  subst l2 y2 z2
  obtain ⟨rfl, N2q, e2⟩ := hQ2
  have N2 := Fr.app N0 N2q
  obtain ⟨T3, X3, e3, st3⟩ := getF X2 hx hZ hown (host := "") (Or.inl (ow hw 19 rfl)) Via.refl e2 F0 (g := (mkF m 10 #[.val (.ref r), .val (.int ((fi + ls) &&& (7 : Int32))), .unset] [(.ref r)])) rfl rfl (hb hby d11_10)
  obtain ⟨c4, Arc4, qc4, Sc4, Mc4, Hc4, Gc4⟩ := id V1
  have hinc4 : ¬ (((fi + ls) &&& (7 : Int32)) < 0 ∨ c4.slots.size ≤ (((fi + ls) &&& (7 : Int32))).toNatClampNeg) := inb_of Sc4 (own_sl _)
  have hatc4 : c4.slots[(((fi + ls) &&& (7 : Int32))).toNatClampNeg]? = some .null := Hc4.at hinc4 (by simp)
  obtain ⟨T5, X5, e5, st5⟩ := getF X3 hx hZ hown (host := "") (Or.inl (ow hw 19 rfl)) Via.refl e3 F0 (g := (mkF m 17 #[.val (.ref r), .val (.int ((fi + ls) &&& (7 : Int32))), .val .null] [(.ref r)])) rfl rfl (hb hby d11_17)
  obtain ⟨c6, Arc6, qc6, Sc6, Mc6, Hc6, Gc6⟩ := id V1
  have hinc6 : ¬ (((fi + ls) &&& (7 : Int32)) < 0 ∨ c6.slots.size ≤ (((fi + ls) &&& (7 : Int32))).toNatClampNeg) := inb_of Sc6 (own_sl _)
  obtain ⟨T7, h7, X7, e7, W7, st7⟩ := stR X5 hx hZ e5 Arc6 (j := ((fi + ls) &&& (7 : Int32))) hinc6 rfl (Or.inl rfl) (g := (mkF m 22 #[.val (.ref r), .val (.int ((fi + ls) &&& (7 : Int32))), .val .null] [.null, (.int ((fi + ls) &&& (7 : Int32))), (.ref tk)])) rfl rfl (hb hby d11_22)
  have V7 : Arv Z h7 tk kt (.object oW) (8 : Int32) [] .null := own_nul V1 W7
  have Z8 : n0 ≤ h7.size := Nat.le_trans Z0 (Nat.le_of_eq W7.size.symm)
  have K9 : Keep h0 h7 [r, tk] := (Keep.refl h0 [r, tk]).wr W7 (Or.inl (List.mem_of_getElem? (i := 1) rfl))
  have N7 := Fr.snoc X7 N2 g2
  have fa10 : Fld Z h7 r oR "_lostSlots" "I" (.int ls) := (F3.other W7 (Or.inl n1))
  obtain ⟨T11, X11, e11, st11⟩ := getF X7 hx hZ hown (host := "") (Or.inl (ow hw 43 rfl)) Via.refl e7 fa10 (g := (mkF m 24 #[.val (.ref r), .val (.int ((fi + ls) &&& (7 : Int32))), .val .null] [(.ref r)])) rfl rfl (hb hby d11_24)
  obtain ⟨T12, X12, e12, st12⟩ := getF X11 hx hZ hown (host := "") (Or.inl (ow hw 43 rfl)) Via.refl e11 fa10 (g := (mkF m 54 #[.val (.ref r), .val (.int ((fi + ls) &&& (7 : Int32))), .val .null] [(.ref r), (.ref r)])) rfl rfl (hb hby d11_54)
  have fa13 : Exa Z h7 r oR := (E1.wr W7)
  obtain ⟨T14, h14, X14, e14, W14, st14⟩ := putF X12 hx hZ hown (host := "") (Or.inl (ow hw 43 rfl)) Via.refl e12 fa10 fa13 (Or.inl (ow hw 44 rfl)) (ow hw 6 rfl) (ty := .int) (by decide) rfl rfl (g := (mkF m 59 #[.val (.ref r), .val (.int ((fi + ls) &&& (7 : Int32))), .val .null] [(.int (ls + (1 : Int32))), (.ref r)])) rfl rfl (hb hby d11_59)
  have fw14 : Fld Z h14 r oR "_lostSlots" "I" (.int (ls + (1 : Int32))) := fa10.same W14
  have Z15 : n0 ≤ h14.size := Nat.le_trans Z8 (Nat.le_of_eq W14.size.symm)
  have K16 : Keep h0 h14 [r, tk] := K9.wr W14 (Or.inl (List.mem_of_getElem? (i := 0) rfl))
  have N14 := Fr.snoc X14 N7 g1
  obtain ⟨fsZ, hrZ, hrun, hended, hW, hsame⟩ := X14.leave (v := some .null) (fun h => by rw [Bd.returns] at h; cases h)
  have fa17 : Exa Z h14 r oR := (fa13.wr W14)
  have fa18 : Fld Z h14 r oR "_tasks" "[Lcom/example/portunus/portunus/policy/WaitingTask;" (.ref tk) := ((F0.other W7 (Or.inl n1)).other W14 (Or.inr (slot_ne (Or.inl (ow hw 20 rfl)) (Or.inl (ow hw 44 rfl)) (by decide) (t := (.array (.object oW))) (t' := .int) (by decide) (by decide))))
  have fa19 : Fld Z h14 r oR "_mayBeLostAfterUs" "[D" .null := ((F1.other W7 (Or.inl n1)).other W14 (Or.inr (slot_ne (Or.inl (ow hw 22 rfl)) (Or.inl (ow hw 44 rfl)) (by decide) (t := (.array .double)) (t' := .int) (by decide) (by decide))))
  have fa20 : Fld Z h14 r oR "_size" "I" (.int sz) := ((F2.other W7 (Or.inl n1)).other W14 (Or.inr (slot_ne (Or.inl (ow hw 29 rfl)) (Or.inl (ow hw 44 rfl)) (by decide) (t := .int) (t' := .int) (by decide) (by decide))))
  have fa21 : Fld Z h14 r oR "_first" "I" (.int fi) := ((F4.other W7 (Or.inl n1)).other W14 (Or.inr (slot_ne (Or.inl (ow hw 35 rfl)) (Or.inl (ow hw 44 rfl)) (by decide) (t := .int) (t' := .int) (by decide) (by decide))))
  have fa22 : Arv Z h14 tk kt (.object oW) (8 : Int32) [] .null := (V7.other W14 (Ne.symm n1))
  refine ⟨_, _, pre0 _ ?_, hrun, hended, _, _, rfl, ?_, ⟨_, rfl⟩, hW, hsame.mono (by decide) (by decide)⟩
  · show Steps p.tables e below (s₁.setTop (mkF m 0 #[.val (.ref r), .unset, .unset] [])) _
    refine XS.aloadN X0.here hx rfl (hb hby d11_0) rfl rfl ?_
    show Steps p.tables e below (s₁.setTop (mkF m 1 #[.val (.ref r), .unset, .unset] [(.ref r)])) _
    refine XS.aloadN X0.here hx rfl (hb hby d11_1) rfl rfl ?_
    show Steps p.tables e below (s₁.setTop (mkF m 2 #[.val (.ref r), .unset, .unset] [(.ref r), (.ref r)])) _
    refine st1 _ ?_
    show Steps p.tables e below (T1.setTop (mkF m 5 #[.val (.ref r), .unset, .unset] [(.int ls), (.ref r)])) _
    refine st2.trans ?_
    show Steps p.tables e below (T2.setTop (mkF m 8 #[.val (.ref r), .unset, .unset] [(.int ((fi + ls) &&& (7 : Int32)))])) _
    refine XS.istoreN X2.here hx rfl (hb hby d11_8) rfl (l' := #[.val (.ref r), .val (.int ((fi + ls) &&& (7 : Int32))), .unset]) rfl ?_
    show Steps p.tables e below (T2.setTop (mkF m 9 #[.val (.ref r), .val (.int ((fi + ls) &&& (7 : Int32))), .unset] [])) _
    refine XS.aloadN X2.here hx rfl (hb hby d11_9) rfl rfl ?_
    show Steps p.tables e below (T2.setTop (mkF m 10 #[.val (.ref r), .val (.int ((fi + ls) &&& (7 : Int32))), .unset] [(.ref r)])) _
    refine st3 _ ?_
    show Steps p.tables e below (T3.setTop (mkF m 13 #[.val (.ref r), .val (.int ((fi + ls) &&& (7 : Int32))), .unset] [(.ref tk)])) _
    refine XS.iloadN X3.here hx rfl (hb hby d11_13) rfl  ?_
    show Steps p.tables e below (T3.setTop (mkF m 14 #[.val (.ref r), .val (.int ((fi + ls) &&& (7 : Int32))), .unset] [(.int ((fi + ls) &&& (7 : Int32))), (.ref tk)])) _
    refine X3.aaload hx (j := ((fi + ls) &&& (7 : Int32))) (v := .null) (by rw [e3]; exact Arc4.1) (State.isArrayOf_alike hZ.alike Arc4.2.1) rfl Arc4.2.2 hinc4 hatc4 (g := (mkF m 14 #[.val (.ref r), .val (.int ((fi + ls) &&& (7 : Int32))), .unset] [(.int ((fi + ls) &&& (7 : Int32))), (.ref tk)])) rfl rfl (hb hby d11_14) _ ?_
    show Steps p.tables e below (T3.setTop (mkF m 15 #[.val (.ref r), .val (.int ((fi + ls) &&& (7 : Int32))), .unset] [.null])) _
    refine XS.astoreN X3.here hx rfl (hb hby d11_15) rfl rfl (l' := #[.val (.ref r), .val (.int ((fi + ls) &&& (7 : Int32))), .val .null]) rfl ?_
    show Steps p.tables e below (T3.setTop (mkF m 16 #[.val (.ref r), .val (.int ((fi + ls) &&& (7 : Int32))), .val .null] [])) _
    refine XS.aloadN X3.here hx rfl (hb hby d11_16) rfl rfl ?_
    show Steps p.tables e below (T3.setTop (mkF m 17 #[.val (.ref r), .val (.int ((fi + ls) &&& (7 : Int32))), .val .null] [(.ref r)])) _
    refine st5 _ ?_
    show Steps p.tables e below (T5.setTop (mkF m 20 #[.val (.ref r), .val (.int ((fi + ls) &&& (7 : Int32))), .val .null] [(.ref tk)])) _
    refine XS.iloadN X5.here hx rfl (hb hby d11_20) rfl  ?_
    show Steps p.tables e below (T5.setTop (mkF m 21 #[.val (.ref r), .val (.int ((fi + ls) &&& (7 : Int32))), .val .null] [(.int ((fi + ls) &&& (7 : Int32))), (.ref tk)])) _
    refine XS.aconstNull X5.here hx rfl (hb hby d11_21) ?_
    show Steps p.tables e below (T5.setTop (mkF m 22 #[.val (.ref r), .val (.int ((fi + ls) &&& (7 : Int32))), .val .null] [.null, (.int ((fi + ls) &&& (7 : Int32))), (.ref tk)])) _
    refine st7 _ ?_
    show Steps p.tables e below (T7.setTop (mkF m 23 #[.val (.ref r), .val (.int ((fi + ls) &&& (7 : Int32))), .val .null] [])) _
    refine XS.aloadN X7.here hx rfl (hb hby d11_23) rfl rfl ?_
    show Steps p.tables e below (T7.setTop (mkF m 24 #[.val (.ref r), .val (.int ((fi + ls) &&& (7 : Int32))), .val .null] [(.ref r)])) _
    refine st11 _ ?_
    show Steps p.tables e below (T11.setTop (mkF m 27 #[.val (.ref r), .val (.int ((fi + ls) &&& (7 : Int32))), .val .null] [(.int ls)])) _
    refine XS.ifYes X11.here hx rfl (pc0 := 27) (pc' := 52) rfl (hb hby d11_27) rfl ((if0 _ _).trans (feq hl).2) (by decide) (by decide) ?_
    show Steps p.tables e below (T11.setTop (mkF m 52 #[.val (.ref r), .val (.int ((fi + ls) &&& (7 : Int32))), .val .null] [])) _
    refine XS.aloadN X11.here hx rfl (hb hby d11_52) rfl rfl ?_
    show Steps p.tables e below (T11.setTop (mkF m 53 #[.val (.ref r), .val (.int ((fi + ls) &&& (7 : Int32))), .val .null] [(.ref r)])) _
    refine XS.dup X11.here hx rfl (hb hby d11_53) rfl rfl ?_
    show Steps p.tables e below (T11.setTop (mkF m 54 #[.val (.ref r), .val (.int ((fi + ls) &&& (7 : Int32))), .val .null] [(.ref r), (.ref r)])) _
    refine st12 _ ?_
    show Steps p.tables e below (T12.setTop (mkF m 57 #[.val (.ref r), .val (.int ((fi + ls) &&& (7 : Int32))), .val .null] [(.int ls), (.ref r)])) _
    refine XS.iconst X12.here hx rfl (hb hby d11_57) ?_
    show Steps p.tables e below (T12.setTop (mkF m 58 #[.val (.ref r), .val (.int ((fi + ls) &&& (7 : Int32))), .val .null] [(.int (1 : Int32)), (.int ls), (.ref r)])) _
    refine XS.iadd X12.here hx rfl (hb hby d11_58) rfl ?_
    show Steps p.tables e below (T12.setTop (mkF m 59 #[.val (.ref r), .val (.int ((fi + ls) &&& (7 : Int32))), .val .null] [(.int (ls + (1 : Int32))), (.ref r)])) _
    refine st14 _ ?_
    show Steps p.tables e below (T14.setTop (mkF m 62 #[.val (.ref r), .val (.int ((fi + ls) &&& (7 : Int32))), .val .null] [])) _
    refine XS.aloadN X14.here hx rfl (hb hby d11_62) rfl rfl ?_
    show Steps p.tables e below (T14.setTop (mkF m 63 #[.val (.ref r), .val (.int ((fi + ls) &&& (7 : Int32))), .val .null] [.null])) _
    jvm_step X14.here [X14.here.top, hx, (hb hby d11_63), X14.method', Bd.returns, Value.isRef, FieldType.isReference]
    first | (intro acts; rw [hrZ _ acts rfl rfl rfl]) | rw [hrZ _ _ rfl rfl rfl]
    exact Steps.refl _
  · show Q11nn Z r tk sz ls fi kt h0 n0 _ T14.heap _
    rw [e14]
    exact ⟨fi, rfl, N14, K16, fa17, fa18, fa19, fa20, fw14, fa21, fa22⟩
theorem pn3 : plainName "com/example/portunus/portunus/policy/RunHasOtherPinLaw" = true := by first | (simp [plainName, overriddenIn]; done) | decide +kernel
theorem d8_0 : decode method_3_code 0 = .ok (.iload_n 1, 1) := by decide +kernel
theorem d8_1 : decode method_3_code 1 = .ok (.iconst 1, 1) := by decide +kernel
theorem d8_2 : decode method_3_code 2 = .ok (.if_icmp .lt 7, 3) := by decide +kernel
theorem d8_9 : decode method_3_code 9 = .ok (.iload_n 1, 1) := by decide +kernel
theorem d8_10 : decode method_3_code 10 = .ok (.iconst 2, 1) := by decide +kernel
theorem d8_11 : decode method_3_code 11 = .ok (.if_icmp .lt 7, 3) := by decide +kernel
theorem d8_18 : decode method_3_code 18 = .ok (.return_, 1) := by decide +kernel
theorem d8_5 : decode method_3_code 5 = .ok (.aload_n 0, 1) := by decide +kernel
theorem d8_6 : decode method_3_code 6 = .ok (.invokevirtual 40, 3) := by decide +kernel
theorem pd4 : parseMethodDescriptor "()V" = some ⟨[], none⟩ := by decide +kernel
theorem d8_14 : decode method_3_code 14 = .ok (.aload_n 0, 1) := by decide +kernel
theorem d8_15 : decode method_3_code 15 = .ok (.invokevirtual 40, 3) := by decide +kernel
theorem ef8n (m : MethodId) (r : Addr) (p1 : Int32) : entryFrame m #[(.ref r), (.int p1)] 2 = mkF m 0 #[.val (.ref r), .val (.int p1)] [] := by first | (simp [entryFrame, mkF, argsToLocals, Value.category]; done) | rfl
def Q8n (Z : State) (r : Addr) (p1 : Int32) (tk : Addr) (sz : Int32) (ls : Int32) (fi : Int32) (kt : ClassId) (h0 : Heap) (n0 : Nat) (v : Option Value) (h : Heap) (L : List Loc) : Prop := v = none ∧ Fr n0 L ∧ Keep h0 h [r, tk] ∧ Exa Z h r oR ∧ Fld Z h r oR "_tasks" "[Lcom/example/portunus/portunus/policy/WaitingTask;" (.ref tk) ∧ Fld Z h r oR "_mayBeLostAfterUs" "[D" .null ∧ Fld Z h r oR "_size" "I" (.int sz) ∧ Fld Z h r oR "_lostSlots" "I" (.int (ls + p1)) ∧ Fld Z h r oR "_first" "I" (.int fi) ∧ Arv Z h tk kt (.object oW) (8 : Int32) [] .null
set_option maxRecDepth 65536 in
set_option maxHeartbeats 40000000 in
theorem rm8n (l : Launch) (Z : State) (a0 : Array Value) (hw : ∀ d ∈ tables_1, d.before a0 Z = true) (ws : List Jvm.Cond) (r : Addr) (p1 : Int32) (tk : Addr) (sz : Int32) (ls : Int32) (fi : Int32) (kt : ClassId) (h0 : Heap) (n0 : Nat) (Z0 : n0 ≤ h0.size) (E1 : Exa Z h0 r oR) (F0 : Fld Z h0 r oR "_tasks" "[Lcom/example/portunus/portunus/policy/WaitingTask;" (.ref tk)) (F1 : Fld Z h0 r oR "_mayBeLostAfterUs" "[D" .null) (F2 : Fld Z h0 r oR "_size" "I" (.int sz)) (F3 : Fld Z h0 r oR "_lostSlots" "I" (.int ls)) (F4 : Fld Z h0 r oR "_first" "I" (.int fi)) (V1 : Arv Z h0 tk kt (.object oW) (8 : Int32) [] .null) (g1 : n0 ≤ r) (g2 : n0 ≤ tk) (n1 : r ≠ tk) (hk : p1 = (0 : Int32) ∨ p1 = (1 : Int32) ∨ p1 = (2 : Int32)) :
    MetFree l (⟨oL, "doMarks", "(Lcom/example/portunus/portunus/policy/Run;I)V"⟩ : MethodName) (head1 (Jvm.Cond.code (⟨oL, "doMarks", "(Lcom/example/portunus/portunus/policy/Run;I)V"⟩ : MethodName) method_3_code 2 none :: ws) ({ frames := 1, cells := 0, slots := 0, locals := 12 } : Room)) (fun a U => a = #[(.ref r), (.int p1)] ∧ Z.Warmed39 U.vm ∧ U.heap = h0) (fun _ _ _ _ _ => True) (fun _ U o U' => ∃ v L, o = .returned v ∧ Q8n Z r p1 tk sz ls fi kt h0 n0 v U'.heap L ∧ FrameEnd U o U' L ({ frames := 1, cells := 0, slots := 0, locals := 12 } : Room).cells ({ frames := 1, cells := 0, slots := 0, locals := 12 } : Room).slots) := by
  refine MetFree.of_bodySF (plainFor_of_name pn3) hisR ?_
  intro p e s m args below meth c s₁ Bd hml0 hP hK
  obtain ⟨rfl, hZ, hh⟩ := hP
  have hx := Bd.exec
  have hby := Bd.bytes
  have hml : c.maxLocals = 2 := hml0
  have hown : s.vm.findClass oL = some m.cls := findClass_of_methodNamed Bd.named
  have hnm := (name_of_methodNamed Bd.named Bd.method).1
  have X0 : Stand p l e ({ frames := 1, cells := 0, slots := 0, locals := 12 } : Room) s m #[(.ref r), (.int p1)] below meth c s₁ [] 0 0 := Stand.of_body Bd
  have e0 : s₁.heap = h0 := by rw [← hh, Bd.state]; rfl
  have N0 := Fr.nil n0
  have pre0 : ∀ tZ, Steps p.tables e below (s₁.setTop (mkF m 0 #[.val (.ref r), .val (.int p1)] [])) tZ → Steps p.tables e below (s₁.setTop (entryFrame m #[(.ref r), (.int p1)] 2)) tZ := fun tZ kZ => castTop (ef8n m r p1) kZ
  have pre1 : ∀ tZ, Steps p.tables e below (s₁.setTop (mkF m 2 #[.val (.ref r), .val (.int p1)] [(.int (1 : Int32)), (.int p1)])) tZ → Steps p.tables e below (s₁.setTop (entryFrame m #[(.ref r), (.int p1)] 2)) tZ := fun tZ kZ => pre0 tZ (by
    show Steps p.tables e below (s₁.setTop (mkF m 0 #[.val (.ref r), .val (.int p1)] [])) _
    refine XS.iloadN X0.here hx rfl (hb hby d8_0) rfl  ?_
    show Steps p.tables e below (s₁.setTop (mkF m 1 #[.val (.ref r), .val (.int p1)] [(.int p1)])) _
    refine XS.iconst X0.here hx rfl (hb hby d8_1) ?_
    exact kZ)
  by_cases hc2 : p1 < (1 : Int32)
  ·  -- yes
    obtain ⟨fsZ, hrZ, hrun, hended, hW, hsame⟩ := X0.leave (v := none) (fun _ => rfl)
    have q3 : Fld Z h0 r oR "_lostSlots" "I" (.int (ls + p1)) := by rw [show (ls + p1) = ls from (by first | (rw [(own_k0 hk hc2)]; done) | (rw [(own_k0 hk hc2)]; simp only [own_pl, own_ps, Int32.add_zero, Int32.sub_zero, own_two, own_twos]))]; exact F3
    refine ⟨_, _, pre1 _ ?_, hrun, hended, _, _, rfl, ?_, ⟨_, rfl⟩, hW, hsame.mono (by decide) (by decide)⟩
    · show Steps p.tables e below (s₁.setTop (mkF m 2 #[.val (.ref r), .val (.int p1)] [(.int (1 : Int32)), (.int p1)])) _
      refine XS.icmpYes X0.here hx rfl (pc0 := 2) (pc' := 9) rfl (hb hby d8_2) rfl (tlt hc2).1 (by decide) (by decide) ?_
      show Steps p.tables e below (s₁.setTop (mkF m 9 #[.val (.ref r), .val (.int p1)] [])) _
      refine XS.iloadN X0.here hx rfl (hb hby d8_9) rfl  ?_
      show Steps p.tables e below (s₁.setTop (mkF m 10 #[.val (.ref r), .val (.int p1)] [(.int p1)])) _
      refine XS.iconst X0.here hx rfl (hb hby d8_10) ?_
      show Steps p.tables e below (s₁.setTop (mkF m 11 #[.val (.ref r), .val (.int p1)] [(.int (2 : Int32)), (.int p1)])) _
      refine XS.icmpYes X0.here hx rfl (pc0 := 11) (pc' := 18) rfl (hb hby d8_11) rfl (tlt (own_lt12 hc2)).1 (by decide) (by decide) ?_
      show Steps p.tables e below (s₁.setTop (mkF m 18 #[.val (.ref r), .val (.int p1)] [])) _
      exact X0.returnOut hx Bd.returns (hb hby d8_18) hrZ
    · show Q8n Z r p1 tk sz ls fi kt h0 n0 _ s₁.heap _
      rw [e0]
      exact ⟨rfl, N0, (Keep.refl h0 [r, tk]), E1, F0, F1, F2, q3, F4, V1⟩
  ·  -- no
    obtain ⟨cq4, kq4, q4a, q4b, q4c⟩ := isOf hZ e0 E1
    obtain ⟨_, _, ⟨T4, L4, k4, n4⟩, -, X4, ⟨Lc4, hQ4, l4, y4, z4⟩, st4⟩ := X0.virtualBack hx (y := (⟨oR, "markFirstOtherLost", "()V"⟩ : MethodName)) (z := (⟨oR, "markFirstOtherLost", "()V"⟩ : MethodName)) hown (mvT hZ (ow hw 49 rfl)) (mvT hZ (ow hw 50 rfl)) (notFace_of_selects (args := #[]) (mvT hZ (ow hw 52 rfl))) (mvT hZ (ow hw 52 rfl)) (mvT hZ (ow hw 51 rfl)) (by decide) (backOf (W := 0) (rm9n l Z a0 hw [] r tk sz ls fi kt h0 n0 Z0 E1 F0 F1 F2 F3 F4 V1 g1 g2 n1) hZ (ow hw 53 rfl) (ow hw 7 rfl) (by decide) (by decide)) q4a q4c (g := (mkF m 6 #[.val (.ref r), .val (.int p1)] [(.ref r)])) rfl (by rw [hml]; rfl) (Steps.refl _) (argsL := []) (rest := []) (lenOf pd4 rfl) rfl (by show 2 * 0 + _ ≤ _; exact Nat.le_of_eq rfl) (hb hby d8_6) (fun _ _ => ⟨rfl, e0, (by decide : 0 + 0 ≤ _), (by decide : 0 + 0 ≤ _)⟩)
    dsimp only [Pt.U, Pt.locs, Pt.cells, Pt.slots] at X4 l4 y4 z4 st4 hQ4
    subst l4 y4 z4
    obtain ⟨rfl, N4q, K4, f4_0, f4_1, f4_2, f4_3, f4_4, f4_5, f4_6⟩ := hQ4
    have N4 := Fr.app N0 N4q
    have Z5 : n0 ≤ T4.heap.size := Nat.le_trans Z0 K4.1
    have K6 : Keep h0 T4.heap [r, tk] := (Keep.refl h0 [r, tk]).trans K4 (allS (P := fun x => x ∈ _ ∨ _) (Or.inl (List.mem_of_getElem? (i := 0) rfl)) (allS (P := fun x => x ∈ _ ∨ _) (Or.inl (List.mem_of_getElem? (i := 1) rfl)) all0))
    have pre7 : ∀ tZ, Steps p.tables e below (T4.setTop (mkF m 11 #[.val (.ref r), .val (.int p1)] [(.int (2 : Int32)), (.int p1)])) tZ → Steps p.tables e below (s₁.setTop (entryFrame m #[(.ref r), (.int p1)] 2)) tZ := fun tZ kZ => pre1 tZ (by
      show Steps p.tables e below (s₁.setTop (mkF m 2 #[.val (.ref r), .val (.int p1)] [(.int (1 : Int32)), (.int p1)])) _
      refine XS.icmpNo X0.here hx rfl (hb hby d8_2) rfl (flt hc2).1 ?_
      show Steps p.tables e below (s₁.setTop (mkF m 5 #[.val (.ref r), .val (.int p1)] [])) _
      refine XS.aloadN X0.here hx rfl (hb hby d8_5) rfl rfl ?_
      show Steps p.tables e below (s₁.setTop (mkF m 6 #[.val (.ref r), .val (.int p1)] [(.ref r)])) _
      refine st4.trans ?_
      show Steps p.tables e below (T4.setTop (mkF m 9 #[.val (.ref r), .val (.int p1)] [])) _
      refine XS.iloadN X4.here hx rfl (hb hby d8_9) rfl  ?_
      show Steps p.tables e below (T4.setTop (mkF m 10 #[.val (.ref r), .val (.int p1)] [(.int p1)])) _
      refine XS.iconst X4.here hx rfl (hb hby d8_10) ?_
      exact kZ)
    by_cases hc8 : p1 < (2 : Int32)
    ·  -- yes
      obtain ⟨fsZ, hrZ, hrun, hended, hW, hsame⟩ := X4.leave (v := none) (fun _ => rfl)
      have q9 : Fld Z T4.heap r oR "_lostSlots" "I" (.int (ls + p1)) := by rw [show (ls + p1) = (ls + (1 : Int32)) from (by first | (rw [(own_k1 hk hc2 hc8)]; done) | (rw [(own_k1 hk hc2 hc8)]; simp only [own_pl, own_ps, Int32.add_zero, Int32.sub_zero, own_two, own_twos]))]; exact f4_4
      refine ⟨_, _, pre7 _ ?_, hrun, hended, _, _, rfl, ?_, ⟨_, rfl⟩, hW, hsame.mono (by decide) (by decide)⟩
      · show Steps p.tables e below (T4.setTop (mkF m 11 #[.val (.ref r), .val (.int p1)] [(.int (2 : Int32)), (.int p1)])) _
        refine XS.icmpYes X4.here hx rfl (pc0 := 11) (pc' := 18) rfl (hb hby d8_11) rfl (tlt hc8).1 (by decide) (by decide) ?_
        show Steps p.tables e below (T4.setTop (mkF m 18 #[.val (.ref r), .val (.int p1)] [])) _
        exact X4.returnOut hx Bd.returns (hb hby d8_18) hrZ
      · show Q8n Z r p1 tk sz ls fi kt h0 n0 _ T4.heap _
        exact ⟨rfl, N4, K6, f4_0, f4_1, f4_2, f4_3, q9, f4_5, f4_6⟩
    ·  -- no
      obtain ⟨cq10, kq10, q10a, q10b, q10c⟩ := isOf hZ rfl f4_0
      obtain ⟨_, _, ⟨T10, L10, k10, n10⟩, -, X10, ⟨Lc10, hQ10, l10, y10, z10⟩, st10⟩ := X4.virtualBack hx (y := (⟨oR, "markFirstOtherLost", "()V"⟩ : MethodName)) (z := (⟨oR, "markFirstOtherLost", "()V"⟩ : MethodName)) hown (mvT hZ (ow hw 49 rfl)) (mvT hZ (ow hw 50 rfl)) (notFace_of_selects (args := #[]) (mvT hZ (ow hw 52 rfl))) (mvT hZ (ow hw 52 rfl)) (mvT hZ (ow hw 51 rfl)) (by decide) (backOf (W := 0) (rm9n l Z a0 hw [] r tk sz (ls + (1 : Int32)) fi kt T4.heap n0 Z5 f4_0 f4_1 f4_2 f4_3 f4_4 f4_5 f4_6 g1 g2 n1) hZ (ow hw 53 rfl) (ow hw 7 rfl) (by decide) (by decide)) q10a q10c (g := (mkF m 15 #[.val (.ref r), .val (.int p1)] [(.ref r)])) rfl (by rw [hml]; rfl) (Steps.refl _) (argsL := []) (rest := []) (lenOf pd4 rfl) rfl (by show 2 * 0 + _ ≤ _; exact Nat.le_of_eq rfl) (hb hby d8_15) (fun _ _ => ⟨rfl, rfl, (by decide : 0 + 0 ≤ _), (by decide : 0 + 0 ≤ _)⟩)
      dsimp only [Pt.U, Pt.locs, Pt.cells, Pt.slots] at X10 l10 y10 z10 st10 hQ10
      subst l10 y10 z10
      obtain ⟨rfl, N10q, K10, f10_0, f10_1, f10_2, f10_3, f10_4, f10_5, f10_6⟩ := hQ10
      have N10 := Fr.app N4 N10q
      have Z11 : n0 ≤ T10.heap.size := Nat.le_trans Z5 K10.1
      have K12 : Keep h0 T10.heap [r, tk] := K6.trans K10 (allS (P := fun x => x ∈ _ ∨ _) (Or.inl (List.mem_of_getElem? (i := 0) rfl)) (allS (P := fun x => x ∈ _ ∨ _) (Or.inl (List.mem_of_getElem? (i := 1) rfl)) all0))
      obtain ⟨fsZ, hrZ, hrun, hended, hW, hsame⟩ := X10.leave (v := none) (fun _ => rfl)
      have q13 : Fld Z T10.heap r oR "_lostSlots" "I" (.int (ls + p1)) := by rw [show (ls + p1) = ((ls + (1 : Int32)) + (1 : Int32)) from (by first | (rw [(own_k2 hk hc2 hc8)]; done) | (rw [(own_k2 hk hc2 hc8)]; simp only [own_pl, own_ps, Int32.add_zero, Int32.sub_zero, own_two, own_twos]))]; exact f10_4
      refine ⟨_, _, pre7 _ ?_, hrun, hended, _, _, rfl, ?_, ⟨_, rfl⟩, hW, hsame.mono (by decide) (by decide)⟩
      · show Steps p.tables e below (T4.setTop (mkF m 11 #[.val (.ref r), .val (.int p1)] [(.int (2 : Int32)), (.int p1)])) _
        refine XS.icmpNo X4.here hx rfl (hb hby d8_11) rfl (flt hc8).1 ?_
        show Steps p.tables e below (T4.setTop (mkF m 14 #[.val (.ref r), .val (.int p1)] [])) _
        refine XS.aloadN X4.here hx rfl (hb hby d8_14) rfl rfl ?_
        show Steps p.tables e below (T4.setTop (mkF m 15 #[.val (.ref r), .val (.int p1)] [(.ref r)])) _
        refine st10.trans ?_
        show Steps p.tables e below (T10.setTop (mkF m 18 #[.val (.ref r), .val (.int p1)] [])) _
        exact X10.returnOut hx Bd.returns (hb hby d8_18) hrZ
      · show Q8n Z r p1 tk sz ls fi kt h0 n0 _ T10.heap _
        exact ⟨rfl, N10, K12, f10_0, f10_1, f10_2, f10_3, q13, f10_5, f10_6⟩
theorem d10_0 : decode method_4_code 0 = .ok (.iload_n 1, 1) := by decide +kernel
theorem d10_1 : decode method_4_code 1 = .ok (.iconst 1, 1) := by decide +kernel
theorem d10_2 : decode method_4_code 2 = .ok (.if_icmp .lt 8, 3) := by decide +kernel
theorem d10_10 : decode method_4_code 10 = .ok (.iload_n 1, 1) := by decide +kernel
theorem d10_11 : decode method_4_code 11 = .ok (.iconst 2, 1) := by decide +kernel
theorem d10_12 : decode method_4_code 12 = .ok (.if_icmp .lt 8, 3) := by decide +kernel
theorem d10_20 : decode method_4_code 20 = .ok (.return_, 1) := by decide +kernel
theorem d10_5 : decode method_4_code 5 = .ok (.aload_n 0, 1) := by decide +kernel
theorem d10_6 : decode method_4_code 6 = .ok (.invokevirtual 43, 3) := by decide +kernel
theorem pd5 : parseMethodDescriptor "()Lcom/example/portunus/portunus/policy/WaitingTask;" = some ⟨[], some (.object oW)⟩ := by decide +kernel
theorem d10_9 : decode method_4_code 9 = .ok (.pop, 1) := by decide +kernel
theorem d10_15 : decode method_4_code 15 = .ok (.aload_n 0, 1) := by decide +kernel
theorem d10_16 : decode method_4_code 16 = .ok (.invokevirtual 43, 3) := by decide +kernel
theorem d10_19 : decode method_4_code 19 = .ok (.pop, 1) := by decide +kernel
theorem ef10n (m : MethodId) (r : Addr) (p1 : Int32) : entryFrame m #[(.ref r), (.int p1)] 2 = mkF m 0 #[.val (.ref r), .val (.int p1)] [] := by first | (simp [entryFrame, mkF, argsToLocals, Value.category]; done) | rfl
def Q10n (Z : State) (r : Addr) (p1 : Int32) (tk : Addr) (sz : Int32) (ls : Int32) (fi : Int32) (kt : ClassId) (h0 : Heap) (n0 : Nat) (v : Option Value) (h : Heap) (L : List Loc) : Prop := ∃ (fn : Int32), v = none ∧ Fr n0 L ∧ Keep h0 h [r, tk] ∧ Exa Z h r oR ∧ Fld Z h r oR "_tasks" "[Lcom/example/portunus/portunus/policy/WaitingTask;" (.ref tk) ∧ Fld Z h r oR "_mayBeLostAfterUs" "[D" .null ∧ Fld Z h r oR "_size" "I" (.int (own_ps ls sz p1)) ∧ Fld Z h r oR "_lostSlots" "I" (.int (own_pl ls p1)) ∧ Fld Z h r oR "_first" "I" (.int fn) ∧ Arv Z h tk kt (.object oW) (8 : Int32) [] .null
set_option maxRecDepth 65536 in
set_option maxHeartbeats 40000000 in
theorem rm10n (l : Launch) (Z : State) (a0 : Array Value) (hw : ∀ d ∈ tables_1, d.before a0 Z = true) (ws : List Jvm.Cond) (r : Addr) (p1 : Int32) (tk : Addr) (sz : Int32) (ls : Int32) (fi : Int32) (kt : ClassId) (h0 : Heap) (n0 : Nat) (Z0 : n0 ≤ h0.size) (E1 : Exa Z h0 r oR) (F0 : Fld Z h0 r oR "_tasks" "[Lcom/example/portunus/portunus/policy/WaitingTask;" (.ref tk)) (F1 : Fld Z h0 r oR "_mayBeLostAfterUs" "[D" .null) (F2 : Fld Z h0 r oR "_size" "I" (.int sz)) (F3 : Fld Z h0 r oR "_lostSlots" "I" (.int ls)) (F4 : Fld Z h0 r oR "_first" "I" (.int fi)) (V1 : Arv Z h0 tk kt (.object oW) (8 : Int32) [] .null) (g1 : n0 ≤ r) (g2 : n0 ≤ tk) (n1 : r ≠ tk) (hk : p1 = (0 : Int32) ∨ p1 = (1 : Int32) ∨ p1 = (2 : Int32)) (hr1 : ¬ ((ls + (1 : Int32)) = (0 : Int32))) :
    MetFree l (⟨oL, "doPolls", "(Lcom/example/portunus/portunus/policy/Run;I)V"⟩ : MethodName) (head1 (Jvm.Cond.code (⟨oL, "doPolls", "(Lcom/example/portunus/portunus/policy/Run;I)V"⟩ : MethodName) method_4_code 2 none :: ws) ({ frames := 2, cells := 0, slots := 0, locals := 28 } : Room)) (fun a U => a = #[(.ref r), (.int p1)] ∧ Z.Warmed39 U.vm ∧ U.heap = h0) (fun _ _ _ _ _ => True) (fun _ U o U' => ∃ v L, o = .returned v ∧ Q10n Z r p1 tk sz ls fi kt h0 n0 v U'.heap L ∧ FrameEnd U o U' L ({ frames := 2, cells := 0, slots := 0, locals := 28 } : Room).cells ({ frames := 2, cells := 0, slots := 0, locals := 28 } : Room).slots) := by
  refine MetFree.of_bodySF (plainFor_of_name pn3) hisR ?_
  intro p e s m args below meth c s₁ Bd hml0 hP hK
  obtain ⟨rfl, hZ, hh⟩ := hP
  have hx := Bd.exec
  have hby := Bd.bytes
  have hml : c.maxLocals = 2 := hml0
  have hown : s.vm.findClass oL = some m.cls := findClass_of_methodNamed Bd.named
  have hnm := (name_of_methodNamed Bd.named Bd.method).1
  have X0 : Stand p l e ({ frames := 2, cells := 0, slots := 0, locals := 28 } : Room) s m #[(.ref r), (.int p1)] below meth c s₁ [] 0 0 := Stand.of_body Bd
  have e0 : s₁.heap = h0 := by rw [← hh, Bd.state]; rfl
  have N0 := Fr.nil n0
  have pre0 : ∀ tZ, Steps p.tables e below (s₁.setTop (mkF m 0 #[.val (.ref r), .val (.int p1)] [])) tZ → Steps p.tables e below (s₁.setTop (entryFrame m #[(.ref r), (.int p1)] 2)) tZ := fun tZ kZ => castTop (ef10n m r p1) kZ
  by_cases hz : ls = (0 : Int32)
  ·  -- True
    have pre1 : ∀ tZ, Steps p.tables e below (s₁.setTop (mkF m 2 #[.val (.ref r), .val (.int p1)] [(.int (1 : Int32)), (.int p1)])) tZ → Steps p.tables e below (s₁.setTop (entryFrame m #[(.ref r), (.int p1)] 2)) tZ := fun tZ kZ => pre0 tZ (by
      show Steps p.tables e below (s₁.setTop (mkF m 0 #[.val (.ref r), .val (.int p1)] [])) _
      refine XS.iloadN X0.here hx rfl (hb hby d10_0) rfl  ?_
      show Steps p.tables e below (s₁.setTop (mkF m 1 #[.val (.ref r), .val (.int p1)] [(.int p1)])) _
      refine XS.iconst X0.here hx rfl (hb hby d10_1) ?_
      exact kZ)
    by_cases hc2 : p1 < (1 : Int32)
    ·  -- yes
      obtain ⟨fsZ, hrZ, hrun, hended, hW, hsame⟩ := X0.leave (v := none) (fun _ => rfl)
      have q3 : Fld Z h0 r oR "_size" "I" (.int (own_ps ls sz p1)) := by rw [show (own_ps ls sz p1) = sz from (by first | (rw [(own_k0 hk hc2)]; done) | (rw [(own_k0 hk hc2)]; simp only [own_pl, own_ps, Int32.add_zero, Int32.sub_zero, own_two, own_twos, if_pos hz]))]; exact F2
      have q4 : Fld Z h0 r oR "_lostSlots" "I" (.int (own_pl ls p1)) := by rw [show (own_pl ls p1) = ls from (by first | (rw [(own_k0 hk hc2)]; done) | (rw [(own_k0 hk hc2)]; simp only [own_pl, own_ps, Int32.add_zero, Int32.sub_zero, own_two, own_twos, if_pos hz]))]; exact F3
      refine ⟨_, _, pre1 _ ?_, hrun, hended, _, _, rfl, ?_, ⟨_, rfl⟩, hW, hsame.mono (by decide) (by decide)⟩
      · show Steps p.tables e below (s₁.setTop (mkF m 2 #[.val (.ref r), .val (.int p1)] [(.int (1 : Int32)), (.int p1)])) _
        refine XS.icmpYes X0.here hx rfl (pc0 := 2) (pc' := 10) rfl (hb hby d10_2) rfl (tlt hc2).1 (by decide) (by decide) ?_
        show Steps p.tables e below (s₁.setTop (mkF m 10 #[.val (.ref r), .val (.int p1)] [])) _
        refine XS.iloadN X0.here hx rfl (hb hby d10_10) rfl  ?_
        show Steps p.tables e below (s₁.setTop (mkF m 11 #[.val (.ref r), .val (.int p1)] [(.int p1)])) _
        refine XS.iconst X0.here hx rfl (hb hby d10_11) ?_
        show Steps p.tables e below (s₁.setTop (mkF m 12 #[.val (.ref r), .val (.int p1)] [(.int (2 : Int32)), (.int p1)])) _
        refine XS.icmpYes X0.here hx rfl (pc0 := 12) (pc' := 20) rfl (hb hby d10_12) rfl (tlt (own_lt12 hc2)).1 (by decide) (by decide) ?_
        show Steps p.tables e below (s₁.setTop (mkF m 20 #[.val (.ref r), .val (.int p1)] [])) _
        exact X0.returnOut hx Bd.returns (hb hby d10_20) hrZ
      · show Q10n Z r p1 tk sz ls fi kt h0 n0 _ s₁.heap _
        rw [e0]
        exact ⟨fi, rfl, N0, (Keep.refl h0 [r, tk]), E1, F0, F1, q3, q4, F4, V1⟩
    ·  -- no
      obtain ⟨cq5, kq5, q5a, q5b, q5c⟩ := isOf hZ e0 E1
      obtain ⟨_, _, ⟨T5, L5, k5, n5⟩, -, X5, ⟨Lc5, hQ5, l5, y5, z5⟩, st5⟩ := X0.virtualBack hx (y := (⟨oR, "pollFirstOther", "()Lcom/example/portunus/portunus/policy/WaitingTask;"⟩ : MethodName)) (z := (⟨oR, "pollFirstOther", "()Lcom/example/portunus/portunus/policy/WaitingTask;"⟩ : MethodName)) hown (mvT hZ (ow hw 57 rfl)) (mvT hZ (ow hw 58 rfl)) (notFace_of_selects (args := #[]) (mvT hZ (ow hw 60 rfl))) (mvT hZ (ow hw 60 rfl)) (mvT hZ (ow hw 59 rfl)) (by decide) (backOf (W := 0) (rm11zn l Z a0 hw [] r tk sz ls fi kt h0 n0 Z0 E1 F0 F1 F2 F3 F4 V1 g1 g2 n1 hz) hZ (ow hw 61 rfl) (ow hw 7 rfl) (by decide) (by decide)) q5a q5c (g := (mkF m 6 #[.val (.ref r), .val (.int p1)] [(.ref r)])) rfl (by rw [hml]; rfl) (Steps.refl _) (argsL := []) (rest := []) (lenOf pd5 rfl) rfl (by show 2 * 0 + _ ≤ _; exact Nat.le_of_eq rfl) (hb hby d10_6) (fun _ _ => ⟨rfl, e0, (by decide : 0 + 0 ≤ _), (by decide : 0 + 0 ≤ _)⟩)
      dsimp only [Pt.U, Pt.locs, Pt.cells, Pt.slots] at X5 l5 y5 z5 st5 hQ5
      subst l5 y5 z5
      obtain ⟨fn_6, rfl, N5q, K5, f5_0, f5_1, f5_2, f5_3, f5_4, f5_5, f5_6⟩ := hQ5
      have N5 := Fr.app N0 N5q
      have Z7 : n0 ≤ T5.heap.size := Nat.le_trans Z0 K5.1
      have K8 : Keep h0 T5.heap [r, tk] := (Keep.refl h0 [r, tk]).trans K5 (allS (P := fun x => x ∈ _ ∨ _) (Or.inl (List.mem_of_getElem? (i := 0) rfl)) (allS (P := fun x => x ∈ _ ∨ _) (Or.inl (List.mem_of_getElem? (i := 1) rfl)) all0))
      have pre9 : ∀ tZ, Steps p.tables e below (T5.setTop (mkF m 12 #[.val (.ref r), .val (.int p1)] [(.int (2 : Int32)), (.int p1)])) tZ → Steps p.tables e below (s₁.setTop (entryFrame m #[(.ref r), (.int p1)] 2)) tZ := fun tZ kZ => pre1 tZ (by
        show Steps p.tables e below (s₁.setTop (mkF m 2 #[.val (.ref r), .val (.int p1)] [(.int (1 : Int32)), (.int p1)])) _
        refine XS.icmpNo X0.here hx rfl (hb hby d10_2) rfl (flt hc2).1 ?_
        show Steps p.tables e below (s₁.setTop (mkF m 5 #[.val (.ref r), .val (.int p1)] [])) _
        refine XS.aloadN X0.here hx rfl (hb hby d10_5) rfl rfl ?_
        show Steps p.tables e below (s₁.setTop (mkF m 6 #[.val (.ref r), .val (.int p1)] [(.ref r)])) _
        refine st5.trans ?_
        show Steps p.tables e below (T5.setTop (mkF m 9 #[.val (.ref r), .val (.int p1)] [.null])) _
        refine XS.pop X5.here hx rfl (hb hby d10_9) rfl rfl ?_
        show Steps p.tables e below (T5.setTop (mkF m 10 #[.val (.ref r), .val (.int p1)] [])) _
        refine XS.iloadN X5.here hx rfl (hb hby d10_10) rfl  ?_
        show Steps p.tables e below (T5.setTop (mkF m 11 #[.val (.ref r), .val (.int p1)] [(.int p1)])) _
        refine XS.iconst X5.here hx rfl (hb hby d10_11) ?_
        exact kZ)
      by_cases hc10 : p1 < (2 : Int32)
      ·  -- yes
        obtain ⟨fsZ, hrZ, hrun, hended, hW, hsame⟩ := X5.leave (v := none) (fun _ => rfl)
        have q11 : Fld Z T5.heap r oR "_size" "I" (.int (own_ps ls sz p1)) := by rw [show (own_ps ls sz p1) = (sz - (1 : Int32)) from (by first | (rw [(own_k1 hk hc2 hc10)]; done) | (rw [(own_k1 hk hc2 hc10)]; simp only [own_pl, own_ps, Int32.add_zero, Int32.sub_zero, own_two, own_twos, if_pos hz]))]; exact f5_3
        have q12 : Fld Z T5.heap r oR "_lostSlots" "I" (.int (own_pl ls p1)) := by rw [show (own_pl ls p1) = ls from (by first | (rw [(own_k1 hk hc2 hc10)]; done) | (rw [(own_k1 hk hc2 hc10)]; simp only [own_pl, own_ps, Int32.add_zero, Int32.sub_zero, own_two, own_twos, if_pos hz]))]; exact f5_4
        refine ⟨_, _, pre9 _ ?_, hrun, hended, _, _, rfl, ?_, ⟨_, rfl⟩, hW, hsame.mono (by decide) (by decide)⟩
        · show Steps p.tables e below (T5.setTop (mkF m 12 #[.val (.ref r), .val (.int p1)] [(.int (2 : Int32)), (.int p1)])) _
          refine XS.icmpYes X5.here hx rfl (pc0 := 12) (pc' := 20) rfl (hb hby d10_12) rfl (tlt hc10).1 (by decide) (by decide) ?_
          show Steps p.tables e below (T5.setTop (mkF m 20 #[.val (.ref r), .val (.int p1)] [])) _
          exact X5.returnOut hx Bd.returns (hb hby d10_20) hrZ
        · show Q10n Z r p1 tk sz ls fi kt h0 n0 _ T5.heap _
          exact ⟨fn_6, rfl, N5, K8, f5_0, f5_1, f5_2, q11, q12, f5_5, f5_6⟩
      ·  -- no
        obtain ⟨cq13, kq13, q13a, q13b, q13c⟩ := isOf hZ rfl f5_0
        obtain ⟨_, _, ⟨T13, L13, k13, n13⟩, -, X13, ⟨Lc13, hQ13, l13, y13, z13⟩, st13⟩ := X5.virtualBack hx (y := (⟨oR, "pollFirstOther", "()Lcom/example/portunus/portunus/policy/WaitingTask;"⟩ : MethodName)) (z := (⟨oR, "pollFirstOther", "()Lcom/example/portunus/portunus/policy/WaitingTask;"⟩ : MethodName)) hown (mvT hZ (ow hw 57 rfl)) (mvT hZ (ow hw 58 rfl)) (notFace_of_selects (args := #[]) (mvT hZ (ow hw 60 rfl))) (mvT hZ (ow hw 60 rfl)) (mvT hZ (ow hw 59 rfl)) (by decide) (backOf (W := 0) (rm11zn l Z a0 hw [] r tk (sz - (1 : Int32)) ls fn_6 kt T5.heap n0 Z7 f5_0 f5_1 f5_2 f5_3 f5_4 f5_5 f5_6 g1 g2 n1 hz) hZ (ow hw 61 rfl) (ow hw 7 rfl) (by decide) (by decide)) q13a q13c (g := (mkF m 16 #[.val (.ref r), .val (.int p1)] [(.ref r)])) rfl (by rw [hml]; rfl) (Steps.refl _) (argsL := []) (rest := []) (lenOf pd5 rfl) rfl (by show 2 * 0 + _ ≤ _; exact Nat.le_of_eq rfl) (hb hby d10_16) (fun _ _ => ⟨rfl, rfl, (by decide : 0 + 0 ≤ _), (by decide : 0 + 0 ≤ _)⟩)
        dsimp only [Pt.U, Pt.locs, Pt.cells, Pt.slots] at X13 l13 y13 z13 st13 hQ13
        subst l13 y13 z13
        obtain ⟨fn_14, rfl, N13q, K13, f13_0, f13_1, f13_2, f13_3, f13_4, f13_5, f13_6⟩ := hQ13
        have N13 := Fr.app N5 N13q
        have Z15 : n0 ≤ T13.heap.size := Nat.le_trans Z7 K13.1
        have K16 : Keep h0 T13.heap [r, tk] := K8.trans K13 (allS (P := fun x => x ∈ _ ∨ _) (Or.inl (List.mem_of_getElem? (i := 0) rfl)) (allS (P := fun x => x ∈ _ ∨ _) (Or.inl (List.mem_of_getElem? (i := 1) rfl)) all0))
        obtain ⟨fsZ, hrZ, hrun, hended, hW, hsame⟩ := X13.leave (v := none) (fun _ => rfl)
        have q17 : Fld Z T13.heap r oR "_size" "I" (.int (own_ps ls sz p1)) := by rw [show (own_ps ls sz p1) = ((sz - (1 : Int32)) - (1 : Int32)) from (by first | (rw [(own_k2 hk hc2 hc10)]; done) | (rw [(own_k2 hk hc2 hc10)]; simp only [own_pl, own_ps, Int32.add_zero, Int32.sub_zero, own_two, own_twos, if_pos hz]))]; exact f13_3
        have q18 : Fld Z T13.heap r oR "_lostSlots" "I" (.int (own_pl ls p1)) := by rw [show (own_pl ls p1) = ls from (by first | (rw [(own_k2 hk hc2 hc10)]; done) | (rw [(own_k2 hk hc2 hc10)]; simp only [own_pl, own_ps, Int32.add_zero, Int32.sub_zero, own_two, own_twos, if_pos hz]))]; exact f13_4
        refine ⟨_, _, pre9 _ ?_, hrun, hended, _, _, rfl, ?_, ⟨_, rfl⟩, hW, hsame.mono (by decide) (by decide)⟩
        · show Steps p.tables e below (T5.setTop (mkF m 12 #[.val (.ref r), .val (.int p1)] [(.int (2 : Int32)), (.int p1)])) _
          refine XS.icmpNo X5.here hx rfl (hb hby d10_12) rfl (flt hc10).1 ?_
          show Steps p.tables e below (T5.setTop (mkF m 15 #[.val (.ref r), .val (.int p1)] [])) _
          refine XS.aloadN X5.here hx rfl (hb hby d10_15) rfl rfl ?_
          show Steps p.tables e below (T5.setTop (mkF m 16 #[.val (.ref r), .val (.int p1)] [(.ref r)])) _
          refine st13.trans ?_
          show Steps p.tables e below (T13.setTop (mkF m 19 #[.val (.ref r), .val (.int p1)] [.null])) _
          refine XS.pop X13.here hx rfl (hb hby d10_19) rfl rfl ?_
          show Steps p.tables e below (T13.setTop (mkF m 20 #[.val (.ref r), .val (.int p1)] [])) _
          exact X13.returnOut hx Bd.returns (hb hby d10_20) hrZ
        · show Q10n Z r p1 tk sz ls fi kt h0 n0 _ T13.heap _
          exact ⟨fn_14, rfl, N13, K16, f13_0, f13_1, f13_2, q17, q18, f13_5, f13_6⟩
  ·  -- False
    have pre19 : ∀ tZ, Steps p.tables e below (s₁.setTop (mkF m 2 #[.val (.ref r), .val (.int p1)] [(.int (1 : Int32)), (.int p1)])) tZ → Steps p.tables e below (s₁.setTop (entryFrame m #[(.ref r), (.int p1)] 2)) tZ := fun tZ kZ => pre0 tZ (by
      show Steps p.tables e below (s₁.setTop (mkF m 0 #[.val (.ref r), .val (.int p1)] [])) _
      refine XS.iloadN X0.here hx rfl (hb hby d10_0) rfl  ?_
      show Steps p.tables e below (s₁.setTop (mkF m 1 #[.val (.ref r), .val (.int p1)] [(.int p1)])) _
      refine XS.iconst X0.here hx rfl (hb hby d10_1) ?_
      exact kZ)
    by_cases hc20 : p1 < (1 : Int32)
    ·  -- yes
      obtain ⟨fsZ, hrZ, hrun, hended, hW, hsame⟩ := X0.leave (v := none) (fun _ => rfl)
      have q21 : Fld Z h0 r oR "_size" "I" (.int (own_ps ls sz p1)) := by rw [show (own_ps ls sz p1) = sz from (by first | (rw [(own_k0 hk hc20)]; done) | (rw [(own_k0 hk hc20)]; simp only [own_pl, own_ps, Int32.add_zero, Int32.sub_zero, own_two, own_twos, if_neg hz]))]; exact F2
      have q22 : Fld Z h0 r oR "_lostSlots" "I" (.int (own_pl ls p1)) := by rw [show (own_pl ls p1) = ls from (by first | (rw [(own_k0 hk hc20)]; done) | (rw [(own_k0 hk hc20)]; simp only [own_pl, own_ps, Int32.add_zero, Int32.sub_zero, own_two, own_twos, if_neg hz]))]; exact F3
      refine ⟨_, _, pre19 _ ?_, hrun, hended, _, _, rfl, ?_, ⟨_, rfl⟩, hW, hsame.mono (by decide) (by decide)⟩
      · show Steps p.tables e below (s₁.setTop (mkF m 2 #[.val (.ref r), .val (.int p1)] [(.int (1 : Int32)), (.int p1)])) _
        refine XS.icmpYes X0.here hx rfl (pc0 := 2) (pc' := 10) rfl (hb hby d10_2) rfl (tlt hc20).1 (by decide) (by decide) ?_
        show Steps p.tables e below (s₁.setTop (mkF m 10 #[.val (.ref r), .val (.int p1)] [])) _
        refine XS.iloadN X0.here hx rfl (hb hby d10_10) rfl  ?_
        show Steps p.tables e below (s₁.setTop (mkF m 11 #[.val (.ref r), .val (.int p1)] [(.int p1)])) _
        refine XS.iconst X0.here hx rfl (hb hby d10_11) ?_
        show Steps p.tables e below (s₁.setTop (mkF m 12 #[.val (.ref r), .val (.int p1)] [(.int (2 : Int32)), (.int p1)])) _
        refine XS.icmpYes X0.here hx rfl (pc0 := 12) (pc' := 20) rfl (hb hby d10_12) rfl (tlt (own_lt12 hc20)).1 (by decide) (by decide) ?_
        show Steps p.tables e below (s₁.setTop (mkF m 20 #[.val (.ref r), .val (.int p1)] [])) _
        exact X0.returnOut hx Bd.returns (hb hby d10_20) hrZ
      · show Q10n Z r p1 tk sz ls fi kt h0 n0 _ s₁.heap _
        rw [e0]
        exact ⟨fi, rfl, N0, (Keep.refl h0 [r, tk]), E1, F0, F1, q21, q22, F4, V1⟩
    ·  -- no
      obtain ⟨cq23, kq23, q23a, q23b, q23c⟩ := isOf hZ e0 E1
      obtain ⟨_, _, ⟨T23, L23, k23, n23⟩, -, X23, ⟨Lc23, hQ23, l23, y23, z23⟩, st23⟩ := X0.virtualBack hx (y := (⟨oR, "pollFirstOther", "()Lcom/example/portunus/portunus/policy/WaitingTask;"⟩ : MethodName)) (z := (⟨oR, "pollFirstOther", "()Lcom/example/portunus/portunus/policy/WaitingTask;"⟩ : MethodName)) hown (mvT hZ (ow hw 57 rfl)) (mvT hZ (ow hw 58 rfl)) (notFace_of_selects (args := #[]) (mvT hZ (ow hw 60 rfl))) (mvT hZ (ow hw 60 rfl)) (mvT hZ (ow hw 59 rfl)) (by decide) (backOf (W := 0) (rm11nn l Z a0 hw [] r tk sz ls fi kt h0 n0 Z0 E1 F0 F1 F2 F3 F4 V1 g1 g2 n1 hz) hZ (ow hw 61 rfl) (ow hw 7 rfl) (by decide) (by decide)) q23a q23c (g := (mkF m 6 #[.val (.ref r), .val (.int p1)] [(.ref r)])) rfl (by rw [hml]; rfl) (Steps.refl _) (argsL := []) (rest := []) (lenOf pd5 rfl) rfl (by show 2 * 0 + _ ≤ _; exact Nat.le_of_eq rfl) (hb hby d10_6) (fun _ _ => ⟨rfl, e0, (by decide : 0 + 0 ≤ _), (by decide : 0 + 0 ≤ _)⟩)
      dsimp only [Pt.U, Pt.locs, Pt.cells, Pt.slots] at X23 l23 y23 z23 st23 hQ23
      subst l23 y23 z23
      obtain ⟨fn_24, rfl, N23q, K23, f23_0, f23_1, f23_2, f23_3, f23_4, f23_5, f23_6⟩ := hQ23
      have N23 := Fr.app N0 N23q
      have Z25 : n0 ≤ T23.heap.size := Nat.le_trans Z0 K23.1
      have K26 : Keep h0 T23.heap [r, tk] := (Keep.refl h0 [r, tk]).trans K23 (allS (P := fun x => x ∈ _ ∨ _) (Or.inl (List.mem_of_getElem? (i := 0) rfl)) (allS (P := fun x => x ∈ _ ∨ _) (Or.inl (List.mem_of_getElem? (i := 1) rfl)) all0))
      have pre27 : ∀ tZ, Steps p.tables e below (T23.setTop (mkF m 12 #[.val (.ref r), .val (.int p1)] [(.int (2 : Int32)), (.int p1)])) tZ → Steps p.tables e below (s₁.setTop (entryFrame m #[(.ref r), (.int p1)] 2)) tZ := fun tZ kZ => pre19 tZ (by
        show Steps p.tables e below (s₁.setTop (mkF m 2 #[.val (.ref r), .val (.int p1)] [(.int (1 : Int32)), (.int p1)])) _
        refine XS.icmpNo X0.here hx rfl (hb hby d10_2) rfl (flt hc20).1 ?_
        show Steps p.tables e below (s₁.setTop (mkF m 5 #[.val (.ref r), .val (.int p1)] [])) _
        refine XS.aloadN X0.here hx rfl (hb hby d10_5) rfl rfl ?_
        show Steps p.tables e below (s₁.setTop (mkF m 6 #[.val (.ref r), .val (.int p1)] [(.ref r)])) _
        refine st23.trans ?_
        show Steps p.tables e below (T23.setTop (mkF m 9 #[.val (.ref r), .val (.int p1)] [.null])) _
        refine XS.pop X23.here hx rfl (hb hby d10_9) rfl rfl ?_
        show Steps p.tables e below (T23.setTop (mkF m 10 #[.val (.ref r), .val (.int p1)] [])) _
        refine XS.iloadN X23.here hx rfl (hb hby d10_10) rfl  ?_
        show Steps p.tables e below (T23.setTop (mkF m 11 #[.val (.ref r), .val (.int p1)] [(.int p1)])) _
        refine XS.iconst X23.here hx rfl (hb hby d10_11) ?_
        exact kZ)
      by_cases hc28 : p1 < (2 : Int32)
      ·  -- yes
        obtain ⟨fsZ, hrZ, hrun, hended, hW, hsame⟩ := X23.leave (v := none) (fun _ => rfl)
        have q29 : Fld Z T23.heap r oR "_size" "I" (.int (own_ps ls sz p1)) := by rw [show (own_ps ls sz p1) = sz from (by first | (rw [(own_k1 hk hc20 hc28)]; done) | (rw [(own_k1 hk hc20 hc28)]; simp only [own_pl, own_ps, Int32.add_zero, Int32.sub_zero, own_two, own_twos, if_neg hz]))]; exact f23_3
        have q30 : Fld Z T23.heap r oR "_lostSlots" "I" (.int (own_pl ls p1)) := by rw [show (own_pl ls p1) = (ls + (1 : Int32)) from (by first | (rw [(own_k1 hk hc20 hc28)]; done) | (rw [(own_k1 hk hc20 hc28)]; simp only [own_pl, own_ps, Int32.add_zero, Int32.sub_zero, own_two, own_twos, if_neg hz]))]; exact f23_4
        refine ⟨_, _, pre27 _ ?_, hrun, hended, _, _, rfl, ?_, ⟨_, rfl⟩, hW, hsame.mono (by decide) (by decide)⟩
        · show Steps p.tables e below (T23.setTop (mkF m 12 #[.val (.ref r), .val (.int p1)] [(.int (2 : Int32)), (.int p1)])) _
          refine XS.icmpYes X23.here hx rfl (pc0 := 12) (pc' := 20) rfl (hb hby d10_12) rfl (tlt hc28).1 (by decide) (by decide) ?_
          show Steps p.tables e below (T23.setTop (mkF m 20 #[.val (.ref r), .val (.int p1)] [])) _
          exact X23.returnOut hx Bd.returns (hb hby d10_20) hrZ
        · show Q10n Z r p1 tk sz ls fi kt h0 n0 _ T23.heap _
          exact ⟨fn_24, rfl, N23, K26, f23_0, f23_1, f23_2, q29, q30, f23_5, f23_6⟩
      ·  -- no
        obtain ⟨cq31, kq31, q31a, q31b, q31c⟩ := isOf hZ rfl f23_0
        obtain ⟨_, _, ⟨T31, L31, k31, n31⟩, -, X31, ⟨Lc31, hQ31, l31, y31, z31⟩, st31⟩ := X23.virtualBack hx (y := (⟨oR, "pollFirstOther", "()Lcom/example/portunus/portunus/policy/WaitingTask;"⟩ : MethodName)) (z := (⟨oR, "pollFirstOther", "()Lcom/example/portunus/portunus/policy/WaitingTask;"⟩ : MethodName)) hown (mvT hZ (ow hw 57 rfl)) (mvT hZ (ow hw 58 rfl)) (notFace_of_selects (args := #[]) (mvT hZ (ow hw 60 rfl))) (mvT hZ (ow hw 60 rfl)) (mvT hZ (ow hw 59 rfl)) (by decide) (backOf (W := 0) (rm11nn l Z a0 hw [] r tk sz (ls + (1 : Int32)) fn_24 kt T23.heap n0 Z25 f23_0 f23_1 f23_2 f23_3 f23_4 f23_5 f23_6 g1 g2 n1 hr1) hZ (ow hw 61 rfl) (ow hw 7 rfl) (by decide) (by decide)) q31a q31c (g := (mkF m 16 #[.val (.ref r), .val (.int p1)] [(.ref r)])) rfl (by rw [hml]; rfl) (Steps.refl _) (argsL := []) (rest := []) (lenOf pd5 rfl) rfl (by show 2 * 0 + _ ≤ _; exact Nat.le_of_eq rfl) (hb hby d10_16) (fun _ _ => ⟨rfl, rfl, (by decide : 0 + 0 ≤ _), (by decide : 0 + 0 ≤ _)⟩)
        dsimp only [Pt.U, Pt.locs, Pt.cells, Pt.slots] at X31 l31 y31 z31 st31 hQ31
        subst l31 y31 z31
        obtain ⟨fn_32, rfl, N31q, K31, f31_0, f31_1, f31_2, f31_3, f31_4, f31_5, f31_6⟩ := hQ31
        have N31 := Fr.app N23 N31q
        have Z33 : n0 ≤ T31.heap.size := Nat.le_trans Z25 K31.1
        have K34 : Keep h0 T31.heap [r, tk] := K26.trans K31 (allS (P := fun x => x ∈ _ ∨ _) (Or.inl (List.mem_of_getElem? (i := 0) rfl)) (allS (P := fun x => x ∈ _ ∨ _) (Or.inl (List.mem_of_getElem? (i := 1) rfl)) all0))
        obtain ⟨fsZ, hrZ, hrun, hended, hW, hsame⟩ := X31.leave (v := none) (fun _ => rfl)
        have q35 : Fld Z T31.heap r oR "_size" "I" (.int (own_ps ls sz p1)) := by rw [show (own_ps ls sz p1) = sz from (by first | (rw [(own_k2 hk hc20 hc28)]; done) | (rw [(own_k2 hk hc20 hc28)]; simp only [own_pl, own_ps, Int32.add_zero, Int32.sub_zero, own_two, own_twos, if_neg hz]))]; exact f31_3
        have q36 : Fld Z T31.heap r oR "_lostSlots" "I" (.int (own_pl ls p1)) := by rw [show (own_pl ls p1) = ((ls + (1 : Int32)) + (1 : Int32)) from (by first | (rw [(own_k2 hk hc20 hc28)]; done) | (rw [(own_k2 hk hc20 hc28)]; simp only [own_pl, own_ps, Int32.add_zero, Int32.sub_zero, own_two, own_twos, if_neg hz]))]; exact f31_4
        refine ⟨_, _, pre27 _ ?_, hrun, hended, _, _, rfl, ?_, ⟨_, rfl⟩, hW, hsame.mono (by decide) (by decide)⟩
        · show Steps p.tables e below (T23.setTop (mkF m 12 #[.val (.ref r), .val (.int p1)] [(.int (2 : Int32)), (.int p1)])) _
          refine XS.icmpNo X23.here hx rfl (hb hby d10_12) rfl (flt hc28).1 ?_
          show Steps p.tables e below (T23.setTop (mkF m 15 #[.val (.ref r), .val (.int p1)] [])) _
          refine XS.aloadN X23.here hx rfl (hb hby d10_15) rfl rfl ?_
          show Steps p.tables e below (T23.setTop (mkF m 16 #[.val (.ref r), .val (.int p1)] [(.ref r)])) _
          refine st31.trans ?_
          show Steps p.tables e below (T31.setTop (mkF m 19 #[.val (.ref r), .val (.int p1)] [.null])) _
          refine XS.pop X31.here hx rfl (hb hby d10_19) rfl rfl ?_
          show Steps p.tables e below (T31.setTop (mkF m 20 #[.val (.ref r), .val (.int p1)] [])) _
          exact X31.returnOut hx Bd.returns (hb hby d10_20) hrZ
        · show Q10n Z r p1 tk sz ls fi kt h0 n0 _ T31.heap _
          exact ⟨fn_32, rfl, N31, K34, f31_0, f31_1, f31_2, q35, q36, f31_5, f31_6⟩
theorem d2_18 : decode prog_68_method_1_code 18 = .ok (.aload_n 0, 1) := by decide +kernel
theorem d2_19 : decode prog_68_method_1_code 19 = .ok (.getfield 13, 3) := by decide +kernel
theorem d2_22 : decode prog_68_method_1_code 22 = .ok (.arraylength, 1) := by decide +kernel
theorem d2_23 : decode prog_68_method_1_code 23 = .ok (.newarray .double, 2) := by decide +kernel
theorem d2_25 : decode prog_68_method_1_code 25 = .ok (.goto 4, 3) := by decide +kernel
theorem ef2d (m : MethodId) (r : Addr) : entryFrame m #[(.ref r), (.int (1 : Int32))] 2 = mkF m 0 #[.val (.ref r), .val (.int (1 : Int32))] [] := by first | (simp [entryFrame, mkF, argsToLocals, Value.category]; done) | rfl
def Q2d (Z : State) (r : Addr) (u1 : Value) (u2 : Value) (h0 : Heap) (n0 : Nat) (v : Option Value) (h : Heap) (L : List Loc) : Prop := ∃ (tk : Addr) (kt : ClassId) (dd : Addr), v = none ∧ Fr n0 L ∧ Keep h0 h [r] ∧ n0 ≤ tk ∧ h0.size ≤ tk ∧ n0 ≤ dd ∧ h0.size ≤ dd ∧ tk ≠ dd ∧ Exa Z h r oR ∧ Fld Z h r oR "_tasks" "[Lcom/example/portunus/portunus/policy/WaitingTask;" (.ref tk) ∧ Fld Z h r oR "_mayBeLostAfterUs" "[D" (.ref dd) ∧ Fld Z h r oR "_size" "I" (.int (0 : Int32)) ∧ Fld Z h r oR "_lostSlots" "I" (.int (0 : Int32)) ∧ Fld Z h r oR "_first" "I" (.int (0 : Int32)) ∧ Arv Z h tk kt (.object oW) (8 : Int32) [] .null ∧ own_da Z h dd
set_option maxRecDepth 65536 in
set_option maxHeartbeats 40000000 in
theorem rm2d (l : Launch) (Z : State) (a0 : Array Value) (hw : ∀ d ∈ tables_1, d.before a0 Z = true) (ws : List Jvm.Cond) (r : Addr) (u1 : Value) (u2 : Value) (h0 : Heap) (n0 : Nat) (Z0 : n0 ≤ h0.size) (E1 : Exa Z h0 r oR) (F0 : Fld Z h0 r oR "_tasks" "[Lcom/example/portunus/portunus/policy/WaitingTask;" u1) (F1 : Fld Z h0 r oR "_mayBeLostAfterUs" "[D" u2) (F2 : Fld Z h0 r oR "_size" "I" (.int (0 : Int32))) (F3 : Fld Z h0 r oR "_lostSlots" "I" (.int (0 : Int32))) (F4 : Fld Z h0 r oR "_first" "I" (.int (0 : Int32))) (g1 : n0 ≤ r) :
    MetFree l (⟨oR, "<init>", "(Z)V"⟩ : MethodName) (head1 (Jvm.Cond.code (⟨oR, "<init>", "(Z)V"⟩ : MethodName) prog_68_method_1_code 2 none :: ws) ({ frames := 1, cells := 2, slots := 16, locals := 13 } : Room)) (fun a U => a = #[(.ref r), (.int (1 : Int32))] ∧ Z.Warmed39 U.vm ∧ U.heap = h0) (fun _ _ _ _ _ => True) (fun _ U o U' => ∃ v L, o = .returned v ∧ Q2d Z r u1 u2 h0 n0 v U'.heap L ∧ FrameEnd U o U' L ({ frames := 1, cells := 2, slots := 16, locals := 13 } : Room).cells ({ frames := 1, cells := 2, slots := 16, locals := 13 } : Room).slots) := by
  refine MetFree.of_bodySF (plainFor_of_name pn0) hisR ?_
  intro p e s m args below meth c s₁ Bd hml0 hP hK
  obtain ⟨rfl, hZ, hh⟩ := hP
  have hx := Bd.exec
  have hby := Bd.bytes
  have hml : c.maxLocals = 2 := hml0
  have hown : s.vm.findClass oR = some m.cls := findClass_of_methodNamed Bd.named
  have hnm := (name_of_methodNamed Bd.named Bd.method).1
  have X0 : Stand p l e ({ frames := 1, cells := 2, slots := 16, locals := 13 } : Room) s m #[(.ref r), (.int (1 : Int32))] below meth c s₁ [] 0 0 := Stand.of_body Bd
  have e0 : s₁.heap = h0 := by rw [← hh, Bd.state]; rfl
  have N0 := Fr.nil n0
  have pre0 : ∀ tZ, Steps p.tables e below (s₁.setTop (mkF m 0 #[.val (.ref r), .val (.int (1 : Int32))] [])) tZ → Steps p.tables e below (s₁.setTop (entryFrame m #[(.ref r), (.int (1 : Int32))] 2)) tZ := fun tZ kZ => castTop (ef2d m r) kZ
  obtain ⟨T1, X1, e1, st1⟩ := initO X0 hx hZ hown (ow hw 11 rfl) (ow hw 12 rfl) (ow hw 13 rfl) e0 (g := (mkF m 1 #[.val (.ref r), .val (.int (1 : Int32))] [(.ref r)])) rfl (by rw [hml]; rfl) rfl (hb hby d2_1) (by decide) (W := 0) (by show 2 * 0 + _ ≤ _; exact Nat.le_of_eq rfl) (by decide)
  obtain ⟨_, _, ⟨T2, L2, k2, n2⟩, -, X2, ⟨Lc2, hQ2, l2, y2, z2⟩, st2⟩ := Jvm.LawKit.callS X1 hx (y := (⟨oR, "tasks", "(I)[Lcom/example/portunus/portunus/policy/WaitingTask;"⟩ : MethodName)) hown (mvT hZ (ow hw 14 rfl)) (mvT hZ (ow hw 15 rfl)) (mvT hZ (ow hw 7 rfl)) (mvT hZ (ow hw 16 rfl)) (by decide) (backOf (W := 1) (rm4 l Z a0 hw []  h0 n0 Z0 ) hZ (ow hw 16 rfl) (ow hw 7 rfl) (by decide) (by decide)) (g := (mkF m 7 #[.val (.ref r), .val (.int (1 : Int32))] [(.int (8 : Int32)), (.ref r)])) rfl (by rw [hml]; rfl) (argsL := [(.int (8 : Int32))]) (rest := [(.ref r)]) (lenOf pd1 rfl) rfl (by show 2 * 0 + _ ≤ _; exact Nat.le_of_eq rfl) (hb hby d2_7) (fun _ _ => ⟨rfl, e1, (by decide : 0 + 1 ≤ _), (by decide : 0 + 8 ≤ _)⟩)
  dsimp only [Pt.U, Pt.locs, Pt.cells, Pt.slots] at X2 l2 y2 z2 st2 hQ2
  subst l2 y2 z2
  obtain ⟨b_3, kt_4, rfl, N2q, K2, u2_0, u2_1, f2_0⟩ := hQ2
  have N2 := Fr.app N0 N2q
  have Z5 : n0 ≤ T2.heap.size := Nat.le_trans Z0 K2.1
  have K6 : Keep h0 T2.heap [r] := (Keep.refl h0 [r]).trans K2 all0
  have ne7 : r ≠ b_3 := Nat.ne_of_lt (Nat.lt_of_lt_of_le E1.lt u2_1)
  have sz_b_3 : h0.size ≤ b_3 := Nat.le_trans (Keep.refl h0 [r]).1 u2_1
  have fa8 : Fld Z T2.heap r oR "_tasks" "[Lcom/example/portunus/portunus/policy/WaitingTask;" u1 := (F0.keep K2 nin0)
  have fa9 : Exa Z T2.heap r oR := (E1.keep K2)
  obtain ⟨T10, h10, X10, e10, W10, st10⟩ := putF X2 hx hZ hown (host := "") (Or.inl (ow hw 19 rfl)) Via.refl rfl fa8 fa9 (Or.inl (ow hw 20 rfl)) (ow hw 6 rfl) (ty := (.array (.object oW))) (by decide) rfl rfl (g := (mkF m 10 #[.val (.ref r), .val (.int (1 : Int32))] [(.ref b_3), (.ref r)])) rfl rfl (hb hby d2_10)
  have fw10 : Fld Z h10 r oR "_tasks" "[Lcom/example/portunus/portunus/policy/WaitingTask;" (.ref b_3) := fa8.same W10
  have Z11 : n0 ≤ h10.size := Nat.le_trans Z5 (Nat.le_of_eq W10.size.symm)
  have K12 : Keep h0 h10 [r] := K6.wr W10 (Or.inl (List.mem_of_getElem? (i := 0) rfl))
  have N10 := Fr.snoc X10 N2 g1
  obtain ⟨T13, X13, e13, st13⟩ := getF X10 hx hZ hown (host := "") (Or.inl (ow hw 19 rfl)) Via.refl e10 fw10 (g := (mkF m 19 #[.val (.ref r), .val (.int (1 : Int32))] [(.ref r), (.ref r)])) rfl rfl (hb hby d2_19)
  have fa14 : Arv Z h10 b_3 kt_4 (.object oW) (8 : Int32) [] .null := (f2_0.other W10 (Ne.symm ne7))
  obtain ⟨c15, Arc15, -, Sc15, Mc15, -, -⟩ := id fa14
  obtain ⟨T16, h16, k16, X16, e16, E16, A16, st16⟩ := newP X13 hx hZ (ow hw 62 rfl) e13 (g := (mkF m 23 #[.val (.ref r), .val (.int (1 : Int32))] [(.int (8 : Int32)), (.ref r)])) rfl (hb hby d2_23) rfl (by decide) (cap := 8) (by decide) (by decide) (by decide) (by decide)
  obtain ⟨b16, g16⟩ : ∃ z, z = h10.size := ⟨_, rfl⟩
  rw [← g16] at A16 st16
  have fa17 : Exa Z h10 r oR := (fa9.wr W10)
  have ne18 : r ≠ b16 := Nat.ne_of_lt (Nat.lt_of_lt_of_le fa17.lt (Nat.le_of_eq g16.symm))
  have ne19 : b_3 ≠ b16 := Nat.ne_of_lt (Nat.lt_of_lt_of_le fa14.lt (Nat.le_of_eq g16.symm))
  have gn_b16 : n0 ≤ b16 := Nat.le_trans Z11 (Nat.le_of_eq g16.symm)
  have sz_b16 : h0.size ≤ b16 := Nat.le_trans K12.1 (Nat.le_of_eq g16.symm)
  have Z20 : n0 ≤ h16.size := Nat.le_trans Z11 E16.1
  have K21 : Keep h0 h16 [r] := K12.ext E16
  have V16 : own_da Z h16 b16 := ⟨_, A16, (sz_new _ _ _).trans rfl⟩
  have fa22 : Fld Z h16 r oR "_mayBeLostAfterUs" "[D" u2 := (((F1.keep K2 nin0).other W10 (Or.inr (slot_ne (Or.inl (ow hw 22 rfl)) (Or.inl (ow hw 20 rfl)) (by decide) (t := (.array .double)) (t' := (.array (.object oW))) (by decide) (by decide)))).ext E16)
  have fa23 : Exa Z h16 r oR := (fa17.ext E16)
  obtain ⟨T24, h24, X24, e24, W24, st24⟩ := putF X16 hx hZ hown (host := "") (Or.inl (ow hw 21 rfl)) Via.refl e16 fa22 fa23 (Or.inl (ow hw 22 rfl)) (ow hw 6 rfl) (ty := (.array .double)) (by decide) rfl rfl (g := (mkF m 29 #[.val (.ref r), .val (.int (1 : Int32))] [(.ref b16), (.ref r)])) rfl rfl (hb hby d2_29)
  have fw24 : Fld Z h24 r oR "_mayBeLostAfterUs" "[D" (.ref b16) := fa22.same W24
  have Z25 : n0 ≤ h24.size := Nat.le_trans Z20 (Nat.le_of_eq W24.size.symm)
  have K26 : Keep h0 h24 [r] := K21.wr W24 (Or.inl (List.mem_of_getElem? (i := 0) rfl))
  have N24 := Fr.snoc X24 N10 g1
  obtain ⟨fsZ, hrZ, hrun, hended, hW, hsame⟩ := X24.leave (v := none) (fun _ => rfl)
  have fa27 : Exa Z h24 r oR := (fa23.wr W24)
  have fa28 : Fld Z h24 r oR "_tasks" "[Lcom/example/portunus/portunus/policy/WaitingTask;" (.ref b_3) := ((fw10.ext E16).other W24 (Or.inr (slot_ne (Or.inl (ow hw 20 rfl)) (Or.inl (ow hw 22 rfl)) (by decide) (t := (.array (.object oW))) (t' := (.array .double)) (by decide) (by decide))))
  have fa29 : Fld Z h24 r oR "_size" "I" (.int (0 : Int32)) := ((((F2.keep K2 nin0).other W10 (Or.inr (slot_ne (Or.inl (ow hw 29 rfl)) (Or.inl (ow hw 20 rfl)) (by decide) (t := .int) (t' := (.array (.object oW))) (by decide) (by decide)))).ext E16).other W24 (Or.inr (slot_ne (Or.inl (ow hw 29 rfl)) (Or.inl (ow hw 22 rfl)) (by decide) (t := .int) (t' := (.array .double)) (by decide) (by decide))))
  have fa30 : Fld Z h24 r oR "_lostSlots" "I" (.int (0 : Int32)) := ((((F3.keep K2 nin0).other W10 (Or.inr (slot_ne (Or.inl (ow hw 44 rfl)) (Or.inl (ow hw 20 rfl)) (by decide) (t := .int) (t' := (.array (.object oW))) (by decide) (by decide)))).ext E16).other W24 (Or.inr (slot_ne (Or.inl (ow hw 44 rfl)) (Or.inl (ow hw 22 rfl)) (by decide) (t := .int) (t' := (.array .double)) (by decide) (by decide))))
  have fa31 : Fld Z h24 r oR "_first" "I" (.int (0 : Int32)) := ((((F4.keep K2 nin0).other W10 (Or.inr (slot_ne (Or.inl (ow hw 35 rfl)) (Or.inl (ow hw 20 rfl)) (by decide) (t := .int) (t' := (.array (.object oW))) (by decide) (by decide)))).ext E16).other W24 (Or.inr (slot_ne (Or.inl (ow hw 35 rfl)) (Or.inl (ow hw 22 rfl)) (by decide) (t := .int) (t' := (.array .double)) (by decide) (by decide))))
  have fa32 : Arv Z h24 b_3 kt_4 (.object oW) (8 : Int32) [] .null := ((fa14.ext E16).other W24 (Ne.symm ne7))
  have fa33 : own_da Z h24 b16 := (own_da_other V16 W24 (Ne.symm ne18))
  refine ⟨_, _, pre0 _ ?_, hrun, hended, _, _, rfl, ?_, ⟨_, rfl⟩, hW, hsame.mono (by decide) (by decide)⟩
  · show Steps p.tables e below (s₁.setTop (mkF m 0 #[.val (.ref r), .val (.int (1 : Int32))] [])) _
    refine XS.aloadN X0.here hx rfl (hb hby d2_0) rfl rfl ?_
    show Steps p.tables e below (s₁.setTop (mkF m 1 #[.val (.ref r), .val (.int (1 : Int32))] [(.ref r)])) _
    refine st1 _ ?_
    show Steps p.tables e below (T1.setTop (mkF m 4 #[.val (.ref r), .val (.int (1 : Int32))] [])) _
    refine XS.aloadN X1.here hx rfl (hb hby d2_4) rfl rfl ?_
    show Steps p.tables e below (T1.setTop (mkF m 5 #[.val (.ref r), .val (.int (1 : Int32))] [(.ref r)])) _
    refine XS.bipush X1.here hx rfl (hb hby d2_5) ?_
    show Steps p.tables e below (T1.setTop (mkF m 7 #[.val (.ref r), .val (.int (1 : Int32))] [(.int (8 : Int32)), (.ref r)])) _
    refine st2 _ ?_
    show Steps p.tables e below (T2.setTop (mkF m 10 #[.val (.ref r), .val (.int (1 : Int32))] [(.ref b_3), (.ref r)])) _
    refine st10 _ ?_
    show Steps p.tables e below (T10.setTop (mkF m 13 #[.val (.ref r), .val (.int (1 : Int32))] [])) _
    refine XS.aloadN X10.here hx rfl (hb hby d2_13) rfl rfl ?_
    show Steps p.tables e below (T10.setTop (mkF m 14 #[.val (.ref r), .val (.int (1 : Int32))] [(.ref r)])) _
    refine XS.iloadN X10.here hx rfl (hb hby d2_14) rfl  ?_
    show Steps p.tables e below (T10.setTop (mkF m 15 #[.val (.ref r), .val (.int (1 : Int32))] [(.int (1 : Int32)), (.ref r)])) _
    refine XS.ifNo X10.here hx rfl (hb hby d2_15) rfl ((if0 _ _).trans (feq (by decide)).1) ?_
    show Steps p.tables e below (T10.setTop (mkF m 18 #[.val (.ref r), .val (.int (1 : Int32))] [(.ref r)])) _
    refine XS.aloadN X10.here hx rfl (hb hby d2_18) rfl rfl ?_
    show Steps p.tables e below (T10.setTop (mkF m 19 #[.val (.ref r), .val (.int (1 : Int32))] [(.ref r), (.ref r)])) _
    refine st13 _ ?_
    show Steps p.tables e below (T13.setTop (mkF m 22 #[.val (.ref r), .val (.int (1 : Int32))] [(.ref b_3), (.ref r)])) _
    refine X13.arraylength hx (by rw [e13]; exact Arc15.1) (State.isArrayOf_alike hZ.alike Arc15.2.1) (g := (mkF m 22 #[.val (.ref r), .val (.int (1 : Int32))] [(.ref b_3), (.ref r)])) rfl rfl (hb hby d2_22) _ ?_
    rw [len_of Sc15 Mc15]
    show Steps p.tables e below (T13.setTop (mkF m 23 #[.val (.ref r), .val (.int (1 : Int32))] [(.int (8 : Int32)), (.ref r)])) _
    refine st16 _ ?_
    show Steps p.tables e below (T16.setTop (mkF m 25 #[.val (.ref r), .val (.int (1 : Int32))] [(.ref b16), (.ref r)])) _
    refine XS.goto X16.here hx rfl (pc0 := 25) (pc' := 29) rfl (hb hby d2_25) (by decide) (by decide) ?_
    show Steps p.tables e below (T16.setTop (mkF m 29 #[.val (.ref r), .val (.int (1 : Int32))] [(.ref b16), (.ref r)])) _
    refine st24 _ ?_
    show Steps p.tables e below (T24.setTop (mkF m 32 #[.val (.ref r), .val (.int (1 : Int32))] [])) _
    exact X24.returnOut hx Bd.returns (hb hby d2_32) hrZ
  · show Q2d Z r u1 u2 h0 n0 _ T24.heap _
    rw [e24]
    exact ⟨b_3, kt_4, b16, rfl, N24, K26, u2_0, sz_b_3, gn_b16, sz_b16, ne19, fa27, fa28, fw24, fa29, fa30, fa31, fa32, fa33⟩
theorem d5_41 : decode prog_68_method_14_code 41 = .ok (.aload_n 0, 1) := by decide +kernel
theorem d5_42 : decode prog_68_method_14_code 42 = .ok (.getfield 17, 3) := by decide +kernel
theorem d5_45 : decode prog_68_method_14_code 45 = .ok (.iload 4, 2) := by decide +kernel
theorem d5_47 : decode prog_68_method_14_code 47 = .ok (.dload_n 2, 1) := by decide +kernel
theorem d5_48 : decode prog_68_method_14_code 48 = .ok (.dastore, 1) := by decide +kernel
theorem ef5d (m : MethodId) (r : Addr) (dv : UInt64) : entryFrame m #[(.ref r), .null, (.double dv)] 5 = mkF m 0 #[.val (.ref r), .val .null, .val (.double dv), .second, .unset] [] := by first | (simp [entryFrame, mkF, argsToLocals, Value.category]; done) | rfl
def Q5d (Z : State) (r : Addr) (dv : UInt64) (tk : Addr) (sz : Int32) (ls : Int32) (fi : Int32) (kt : ClassId) (dd : Addr) (h0 : Heap) (n0 : Nat) (v : Option Value) (h : Heap) (L : List Loc) : Prop := v = none ∧ Fr n0 L ∧ Keep h0 h [r, tk, dd] ∧ Exa Z h r oR ∧ Fld Z h r oR "_tasks" "[Lcom/example/portunus/portunus/policy/WaitingTask;" (.ref tk) ∧ Fld Z h r oR "_mayBeLostAfterUs" "[D" (.ref dd) ∧ Fld Z h r oR "_size" "I" (.int (sz + (1 : Int32))) ∧ Fld Z h r oR "_lostSlots" "I" (.int ls) ∧ Fld Z h r oR "_first" "I" (.int fi) ∧ Arv Z h tk kt (.object oW) (8 : Int32) [] .null ∧ own_da Z h dd
set_option maxRecDepth 65536 in
set_option maxHeartbeats 40000000 in
theorem rm5d (l : Launch) (Z : State) (a0 : Array Value) (hw : ∀ d ∈ tables_1, d.before a0 Z = true) (ws : List Jvm.Cond) (r : Addr) (dv : UInt64) (tk : Addr) (sz : Int32) (ls : Int32) (fi : Int32) (kt : ClassId) (dd : Addr) (h0 : Heap) (n0 : Nat) (Z0 : n0 ≤ h0.size) (E1 : Exa Z h0 r oR) (F0 : Fld Z h0 r oR "_tasks" "[Lcom/example/portunus/portunus/policy/WaitingTask;" (.ref tk)) (F1 : Fld Z h0 r oR "_mayBeLostAfterUs" "[D" (.ref dd)) (F2 : Fld Z h0 r oR "_size" "I" (.int sz)) (F3 : Fld Z h0 r oR "_lostSlots" "I" (.int ls)) (F4 : Fld Z h0 r oR "_first" "I" (.int fi)) (V1 : Arv Z h0 tk kt (.object oW) (8 : Int32) [] .null) (g1 : n0 ≤ r) (g2 : n0 ≤ tk) (n1 : r ≠ tk) (D1 : own_da Z h0 dd) (g3 : n0 ≤ dd) (n2 : r ≠ dd) (n3 : tk ≠ dd) (hs : ¬ (sz = (8 : Int32))) :
    MetFree l (⟨oR, "addLast", "(Lcom/example/portunus/portunus/policy/WaitingTask;D)V"⟩ : MethodName) (head1 (Jvm.Cond.code (⟨oR, "addLast", "(Lcom/example/portunus/portunus/policy/WaitingTask;D)V"⟩ : MethodName) prog_68_method_14_code 5 none :: ws) ({ frames := 1, cells := 0, slots := 0, locals := 13 } : Room)) (fun a U => a = #[(.ref r), .null, (.double dv)] ∧ Z.Warmed39 U.vm ∧ U.heap = h0) (fun _ _ _ _ _ => True) (fun _ U o U' => ∃ v L, o = .returned v ∧ Q5d Z r dv tk sz ls fi kt dd h0 n0 v U'.heap L ∧ FrameEnd U o U' L ({ frames := 1, cells := 0, slots := 0, locals := 13 } : Room).cells ({ frames := 1, cells := 0, slots := 0, locals := 13 } : Room).slots) := by
  refine MetFree.of_bodySF (plainFor_of_name pn0) hisR ?_
  intro p e s m args below meth c s₁ Bd hml0 hP hK
  obtain ⟨rfl, hZ, hh⟩ := hP
  have hx := Bd.exec
  have hby := Bd.bytes
  have hml : c.maxLocals = 5 := hml0
  have hown : s.vm.findClass oR = some m.cls := findClass_of_methodNamed Bd.named
  have hnm := (name_of_methodNamed Bd.named Bd.method).1
  have X0 : Stand p l e ({ frames := 1, cells := 0, slots := 0, locals := 13 } : Room) s m #[(.ref r), .null, (.double dv)] below meth c s₁ [] 0 0 := Stand.of_body Bd
  have e0 : s₁.heap = h0 := by rw [← hh, Bd.state]; rfl
  have N0 := Fr.nil n0
  have pre0 : ∀ tZ, Steps p.tables e below (s₁.setTop (mkF m 0 #[.val (.ref r), .val .null, .val (.double dv), .second, .unset] [])) tZ → Steps p.tables e below (s₁.setTop (entryFrame m #[(.ref r), .null, (.double dv)] 5)) tZ := fun tZ kZ => castTop (ef5d m r dv) kZ
  obtain ⟨T1, X1, e1, st1⟩ := getF X0 hx hZ hown (host := "") (Or.inl (ow hw 28 rfl)) Via.refl e0 F2 (g := (mkF m 1 #[.val (.ref r), .val .null, .val (.double dv), .second, .unset] [(.ref r)])) rfl rfl (hb hby d5_1)
  obtain ⟨T2, X2, e2, st2⟩ := getF X1 hx hZ hown (host := "") (Or.inl (ow hw 19 rfl)) Via.refl e1 F0 (g := (mkF m 5 #[.val (.ref r), .val .null, .val (.double dv), .second, .unset] [(.ref r), (.int sz)])) rfl rfl (hb hby d5_5)
  obtain ⟨c3, Arc3, -, Sc3, Mc3, -, -⟩ := id V1
  obtain ⟨T4, X4, e4, st4⟩ := getF X2 hx hZ hown (host := "") (Or.inl (ow hw 28 rfl)) Via.refl e2 F2 (g := (mkF m 18 #[.val (.ref r), .val .null, .val (.double dv), .second, .unset] [(.ref r), (.ref r)])) rfl rfl (hb hby d5_18)
  obtain ⟨cq5, q5, q5'⟩ := E1.cell
  obtain ⟨_, _, ⟨T5, L5, k5, n5⟩, -, X5, ⟨Lc5, hQ5, l5, y5, z5⟩, st5⟩ := X4.privateBack hx (y := (⟨oR, "slot", "(I)I"⟩ : MethodName)) hown (mvT hZ (ow hw 30 rfl)) (mvT hZ (ow hw 31 rfl)) (own_sel hZ (ow hw 6 rfl) (ow hw 32 rfl) (ow hw 31 rfl) (by decide)) (Cond.privateMethod_at (mvP hZ (ow hw 32 rfl) (args := #[]))) (mvT hZ (ow hw 33 rfl)) (by decide) (backOf (W := 0) (rm6 l Z a0 hw [] r sz tk fi kt h0 n0 Z0 F0 F4 V1) hZ (ow hw 33 rfl) (ow hw 7 rfl) (by decide) (by decide)) (g := (mkF m 21 #[.val (.ref r), .val .null, .val (.double dv), .second, .unset] [(.int sz), (.ref r)])) rfl (by rw [hml]; rfl) (Steps.refl _) (a := r) (by rw [e4]; exact q5) q5' (argsL := [(.int sz)]) (rest := []) (lenOf pd2 rfl) rfl (by show 2 * 0 + _ ≤ _; exact Nat.le_of_eq rfl) (hb hby d5_21) (fun _ _ => ⟨rfl, e4, (by decide : 0 + 0 ≤ _), (by decide : 0 + 0 ≤ _)⟩)
  dsimp only [Pt.U, Pt.locs, Pt.cells, Pt.slots] at X5 l5 y5 z5 st5 hQ5
  subst l5 y5 z5
  obtain ⟨rfl, N5q, e5⟩ := hQ5
  have N5 := Fr.app N0 N5q
  obtain ⟨T6, X6, e6, st6⟩ := getF X5 hx hZ hown (host := "") (Or.inl (ow hw 19 rfl)) Via.refl e5 F0 (g := (mkF m 27 #[.val (.ref r), .val .null, .val (.double dv), .second, .val (.int ((fi + sz) &&& (7 : Int32)))] [(.ref r)])) rfl rfl (hb hby d5_27)
  obtain ⟨c7, Arc7, qc7, Sc7, Mc7, Hc7, Gc7⟩ := id V1
  have hinc7 : ¬ (((fi + sz) &&& (7 : Int32)) < 0 ∨ c7.slots.size ≤ (((fi + sz) &&& (7 : Int32))).toNatClampNeg) := inb_of Sc7 (own_sl _)
  obtain ⟨T8, h8, X8, e8, W8, st8⟩ := stR X6 hx hZ e6 Arc7 (j := ((fi + sz) &&& (7 : Int32))) hinc7 rfl (Or.inl rfl) (g := (mkF m 33 #[.val (.ref r), .val .null, .val (.double dv), .second, .val (.int ((fi + sz) &&& (7 : Int32)))] [.null, (.int ((fi + sz) &&& (7 : Int32))), (.ref tk)])) rfl rfl (hb hby d5_33)
  have V8 : Arv Z h8 tk kt (.object oW) (8 : Int32) [] .null := own_nul V1 W8
  have Z9 : n0 ≤ h8.size := Nat.le_trans Z0 (Nat.le_of_eq W8.size.symm)
  have K10 : Keep h0 h8 [r, tk, dd] := (Keep.refl h0 [r, tk, dd]).wr W8 (Or.inl (List.mem_of_getElem? (i := 1) rfl))
  have N8 := Fr.snoc X8 N5 g2
  have fa11 : Fld Z h8 r oR "_mayBeLostAfterUs" "[D" (.ref dd) := (F1.other W8 (Or.inl n1))
  obtain ⟨T12, X12, e12, st12⟩ := getF X8 hx hZ hown (host := "") (Or.inl (ow hw 21 rfl)) Via.refl e8 fa11 (g := (mkF m 35 #[.val (.ref r), .val .null, .val (.double dv), .second, .val (.int ((fi + sz) &&& (7 : Int32)))] [(.ref r)])) rfl rfl (hb hby d5_35)
  obtain ⟨T13, X13, e13, st13⟩ := getF X12 hx hZ hown (host := "") (Or.inl (ow hw 21 rfl)) Via.refl e12 fa11 (g := (mkF m 42 #[.val (.ref r), .val .null, .val (.double dv), .second, .val (.int ((fi + sz) &&& (7 : Int32)))] [(.ref r)])) rfl rfl (hb hby d5_42)
  have fa14 : own_da Z h8 dd := (own_da_other D1 W8 (Ne.symm n3))
  obtain ⟨c15, Arc15, Sc15⟩ := id fa14
  have hinc15 : ¬ (((fi + sz) &&& (7 : Int32)) < 0 ∨ c15.slots.size ≤ (((fi + sz) &&& (7 : Int32))).toNatClampNeg) := own_in8 _ Sc15
  obtain ⟨T16, h16, X16, e16, W16, st16⟩ := Jvm.RoadKit.stD X13 hx hZ e13 Arc15 (j := ((fi + sz) &&& (7 : Int32))) hinc15 (g := (mkF m 48 #[.val (.ref r), .val .null, .val (.double dv), .second, .val (.int ((fi + sz) &&& (7 : Int32)))] [(.double dv), (.int ((fi + sz) &&& (7 : Int32))), (.ref dd)])) rfl rfl (hb hby d5_48)
  have V16 : own_da Z h16 dd := ⟨_, Arc15.same W16, by rw [sz_set]; exact Sc15⟩
  have Z17 : n0 ≤ h16.size := Nat.le_trans Z9 (Nat.le_of_eq W16.size.symm)
  have K18 : Keep h0 h16 [r, tk, dd] := K10.wr W16 (Or.inl (List.mem_of_getElem? (i := 2) rfl))
  have N16 := Fr.snoc X16 N8 g3
  have fa19 : Fld Z h16 r oR "_size" "I" (.int sz) := ((F2.other W8 (Or.inl n1)).other W16 (Or.inl n2))
  obtain ⟨T20, X20, e20, st20⟩ := getF X16 hx hZ hown (host := "") (Or.inl (ow hw 28 rfl)) Via.refl e16 fa19 (g := (mkF m 51 #[.val (.ref r), .val .null, .val (.double dv), .second, .val (.int ((fi + sz) &&& (7 : Int32)))] [(.ref r), (.ref r)])) rfl rfl (hb hby d5_51)
  have fa21 : Exa Z h16 r oR := ((E1.wr W8).wr W16)
  obtain ⟨T22, h22, X22, e22, W22, st22⟩ := putF X20 hx hZ hown (host := "") (Or.inl (ow hw 28 rfl)) Via.refl e20 fa19 fa21 (Or.inl (ow hw 29 rfl)) (ow hw 6 rfl) (ty := .int) (by decide) rfl rfl (g := (mkF m 56 #[.val (.ref r), .val .null, .val (.double dv), .second, .val (.int ((fi + sz) &&& (7 : Int32)))] [(.int (sz + (1 : Int32))), (.ref r)])) rfl rfl (hb hby d5_56)
  have fw22 : Fld Z h22 r oR "_size" "I" (.int (sz + (1 : Int32))) := fa19.same W22
  have Z23 : n0 ≤ h22.size := Nat.le_trans Z17 (Nat.le_of_eq W22.size.symm)
  have K24 : Keep h0 h22 [r, tk, dd] := K18.wr W22 (Or.inl (List.mem_of_getElem? (i := 0) rfl))
  have N22 := Fr.snoc X22 N16 g1
  obtain ⟨fsZ, hrZ, hrun, hended, hW, hsame⟩ := X22.leave (v := none) (fun _ => rfl)
  have fa25 : Exa Z h22 r oR := (fa21.wr W22)
  have fa26 : Fld Z h22 r oR "_tasks" "[Lcom/example/portunus/portunus/policy/WaitingTask;" (.ref tk) := (((F0.other W8 (Or.inl n1)).other W16 (Or.inl n2)).other W22 (Or.inr (slot_ne (Or.inl (ow hw 20 rfl)) (Or.inl (ow hw 29 rfl)) (by decide) (t := (.array (.object oW))) (t' := .int) (by decide) (by decide))))
  have fa27 : Fld Z h22 r oR "_mayBeLostAfterUs" "[D" (.ref dd) := ((fa11.other W16 (Or.inl n2)).other W22 (Or.inr (slot_ne (Or.inl (ow hw 22 rfl)) (Or.inl (ow hw 29 rfl)) (by decide) (t := (.array .double)) (t' := .int) (by decide) (by decide))))
  have fa28 : Fld Z h22 r oR "_lostSlots" "I" (.int ls) := (((F3.other W8 (Or.inl n1)).other W16 (Or.inl n2)).other W22 (Or.inr (slot_ne (Or.inl (ow hw 44 rfl)) (Or.inl (ow hw 29 rfl)) (by decide) (t := .int) (t' := .int) (by decide) (by decide))))
  have fa29 : Fld Z h22 r oR "_first" "I" (.int fi) := (((F4.other W8 (Or.inl n1)).other W16 (Or.inl n2)).other W22 (Or.inr (slot_ne (Or.inl (ow hw 35 rfl)) (Or.inl (ow hw 29 rfl)) (by decide) (t := .int) (t' := .int) (by decide) (by decide))))
  have fa30 : Arv Z h22 tk kt (.object oW) (8 : Int32) [] .null := ((V8.other W16 n3).other W22 (Ne.symm n1))
  have fa31 : own_da Z h22 dd := (own_da_other V16 W22 (Ne.symm n2))
  refine ⟨_, _, pre0 _ ?_, hrun, hended, _, _, rfl, ?_, ⟨_, rfl⟩, hW, hsame.mono (by decide) (by decide)⟩
  · show Steps p.tables e below (s₁.setTop (mkF m 0 #[.val (.ref r), .val .null, .val (.double dv), .second, .unset] [])) _
    refine XS.aloadN X0.here hx rfl (hb hby d5_0) rfl rfl ?_
    show Steps p.tables e below (s₁.setTop (mkF m 1 #[.val (.ref r), .val .null, .val (.double dv), .second, .unset] [(.ref r)])) _
    refine st1 _ ?_
    show Steps p.tables e below (T1.setTop (mkF m 4 #[.val (.ref r), .val .null, .val (.double dv), .second, .unset] [(.int sz)])) _
    refine XS.aloadN X1.here hx rfl (hb hby d5_4) rfl rfl ?_
    show Steps p.tables e below (T1.setTop (mkF m 5 #[.val (.ref r), .val .null, .val (.double dv), .second, .unset] [(.ref r), (.int sz)])) _
    refine st2 _ ?_
    show Steps p.tables e below (T2.setTop (mkF m 8 #[.val (.ref r), .val .null, .val (.double dv), .second, .unset] [(.ref tk), (.int sz)])) _
    refine X2.arraylength hx (by rw [e2]; exact Arc3.1) (State.isArrayOf_alike hZ.alike Arc3.2.1) (g := (mkF m 8 #[.val (.ref r), .val .null, .val (.double dv), .second, .unset] [(.ref tk), (.int sz)])) rfl rfl (hb hby d5_8) _ ?_
    rw [len_of Sc3 Mc3]
    show Steps p.tables e below (T2.setTop (mkF m 9 #[.val (.ref r), .val .null, .val (.double dv), .second, .unset] [(.int (8 : Int32)), (.int sz)])) _
    refine XS.icmpYes X2.here hx rfl (pc0 := 9) (pc' := 16) rfl (hb hby d5_9) rfl (feq hs).2 (by decide) (by decide) ?_
    show Steps p.tables e below (T2.setTop (mkF m 16 #[.val (.ref r), .val .null, .val (.double dv), .second, .unset] [])) _
    refine XS.aloadN X2.here hx rfl (hb hby d5_16) rfl rfl ?_
    show Steps p.tables e below (T2.setTop (mkF m 17 #[.val (.ref r), .val .null, .val (.double dv), .second, .unset] [(.ref r)])) _
    refine XS.aloadN X2.here hx rfl (hb hby d5_17) rfl rfl ?_
    show Steps p.tables e below (T2.setTop (mkF m 18 #[.val (.ref r), .val .null, .val (.double dv), .second, .unset] [(.ref r), (.ref r)])) _
    refine st4 _ ?_
    show Steps p.tables e below (T4.setTop (mkF m 21 #[.val (.ref r), .val .null, .val (.double dv), .second, .unset] [(.int sz), (.ref r)])) _
    refine st5.trans ?_
    show Steps p.tables e below (T5.setTop (mkF m 24 #[.val (.ref r), .val .null, .val (.double dv), .second, .unset] [(.int ((fi + sz) &&& (7 : Int32)))])) _
    refine XS.istore X5.here hx rfl (hb hby d5_24) rfl (l' := #[.val (.ref r), .val .null, .val (.double dv), .second, .val (.int ((fi + sz) &&& (7 : Int32)))]) rfl ?_
    show Steps p.tables e below (T5.setTop (mkF m 26 #[.val (.ref r), .val .null, .val (.double dv), .second, .val (.int ((fi + sz) &&& (7 : Int32)))] [])) _
    refine XS.aloadN X5.here hx rfl (hb hby d5_26) rfl rfl ?_
    show Steps p.tables e below (T5.setTop (mkF m 27 #[.val (.ref r), .val .null, .val (.double dv), .second, .val (.int ((fi + sz) &&& (7 : Int32)))] [(.ref r)])) _
    refine st6 _ ?_
    show Steps p.tables e below (T6.setTop (mkF m 30 #[.val (.ref r), .val .null, .val (.double dv), .second, .val (.int ((fi + sz) &&& (7 : Int32)))] [(.ref tk)])) _
    refine XS.iload X6.here hx rfl (hb hby d5_30) rfl  ?_
    show Steps p.tables e below (T6.setTop (mkF m 32 #[.val (.ref r), .val .null, .val (.double dv), .second, .val (.int ((fi + sz) &&& (7 : Int32)))] [(.int ((fi + sz) &&& (7 : Int32))), (.ref tk)])) _
    refine XS.aloadN X6.here hx rfl (hb hby d5_32) rfl rfl ?_
    show Steps p.tables e below (T6.setTop (mkF m 33 #[.val (.ref r), .val .null, .val (.double dv), .second, .val (.int ((fi + sz) &&& (7 : Int32)))] [.null, (.int ((fi + sz) &&& (7 : Int32))), (.ref tk)])) _
    refine st8 _ ?_
    show Steps p.tables e below (T8.setTop (mkF m 34 #[.val (.ref r), .val .null, .val (.double dv), .second, .val (.int ((fi + sz) &&& (7 : Int32)))] [])) _
    refine XS.aloadN X8.here hx rfl (hb hby d5_34) rfl rfl ?_
    show Steps p.tables e below (T8.setTop (mkF m 35 #[.val (.ref r), .val .null, .val (.double dv), .second, .val (.int ((fi + sz) &&& (7 : Int32)))] [(.ref r)])) _
    refine st12 _ ?_
    show Steps p.tables e below (T12.setTop (mkF m 38 #[.val (.ref r), .val .null, .val (.double dv), .second, .val (.int ((fi + sz) &&& (7 : Int32)))] [(.ref dd)])) _
    refine XS.ifnullNo X12.here hx rfl (hb hby d5_38) rfl ?_
    show Steps p.tables e below (T12.setTop (mkF m 41 #[.val (.ref r), .val .null, .val (.double dv), .second, .val (.int ((fi + sz) &&& (7 : Int32)))] [])) _
    refine XS.aloadN X12.here hx rfl (hb hby d5_41) rfl rfl ?_
    show Steps p.tables e below (T12.setTop (mkF m 42 #[.val (.ref r), .val .null, .val (.double dv), .second, .val (.int ((fi + sz) &&& (7 : Int32)))] [(.ref r)])) _
    refine st13 _ ?_
    show Steps p.tables e below (T13.setTop (mkF m 45 #[.val (.ref r), .val .null, .val (.double dv), .second, .val (.int ((fi + sz) &&& (7 : Int32)))] [(.ref dd)])) _
    refine XS.iload X13.here hx rfl (hb hby d5_45) rfl  ?_
    show Steps p.tables e below (T13.setTop (mkF m 47 #[.val (.ref r), .val .null, .val (.double dv), .second, .val (.int ((fi + sz) &&& (7 : Int32)))] [(.int ((fi + sz) &&& (7 : Int32))), (.ref dd)])) _
    refine XS.dloadN X13.here hx rfl (hb hby d5_47) rfl  ?_
    show Steps p.tables e below (T13.setTop (mkF m 48 #[.val (.ref r), .val .null, .val (.double dv), .second, .val (.int ((fi + sz) &&& (7 : Int32)))] [(.double dv), (.int ((fi + sz) &&& (7 : Int32))), (.ref dd)])) _
    refine st16 _ ?_
    show Steps p.tables e below (T16.setTop (mkF m 49 #[.val (.ref r), .val .null, .val (.double dv), .second, .val (.int ((fi + sz) &&& (7 : Int32)))] [])) _
    refine XS.aloadN X16.here hx rfl (hb hby d5_49) rfl rfl ?_
    show Steps p.tables e below (T16.setTop (mkF m 50 #[.val (.ref r), .val .null, .val (.double dv), .second, .val (.int ((fi + sz) &&& (7 : Int32)))] [(.ref r)])) _
    refine XS.dup X16.here hx rfl (hb hby d5_50) rfl rfl ?_
    show Steps p.tables e below (T16.setTop (mkF m 51 #[.val (.ref r), .val .null, .val (.double dv), .second, .val (.int ((fi + sz) &&& (7 : Int32)))] [(.ref r), (.ref r)])) _
    refine st20 _ ?_
    show Steps p.tables e below (T20.setTop (mkF m 54 #[.val (.ref r), .val .null, .val (.double dv), .second, .val (.int ((fi + sz) &&& (7 : Int32)))] [(.int sz), (.ref r)])) _
    refine XS.iconst X20.here hx rfl (hb hby d5_54) ?_
    show Steps p.tables e below (T20.setTop (mkF m 55 #[.val (.ref r), .val .null, .val (.double dv), .second, .val (.int ((fi + sz) &&& (7 : Int32)))] [(.int (1 : Int32)), (.int sz), (.ref r)])) _
    refine XS.iadd X20.here hx rfl (hb hby d5_55) rfl ?_
    show Steps p.tables e below (T20.setTop (mkF m 56 #[.val (.ref r), .val .null, .val (.double dv), .second, .val (.int ((fi + sz) &&& (7 : Int32)))] [(.int (sz + (1 : Int32))), (.ref r)])) _
    refine st22 _ ?_
    show Steps p.tables e below (T22.setTop (mkF m 59 #[.val (.ref r), .val .null, .val (.double dv), .second, .val (.int ((fi + sz) &&& (7 : Int32)))] [])) _
    exact X22.returnOut hx Bd.returns (hb hby d5_59) hrZ
  · show Q5d Z r dv tk sz ls fi kt dd h0 n0 _ T22.heap _
    rw [e22]
    exact ⟨rfl, N22, K24, fa25, fa26, fa27, fw22, fa28, fa29, fa30, fa31⟩
theorem ef9d (m : MethodId) (r : Addr) : entryFrame m #[(.ref r)] 1 = mkF m 0 #[.val (.ref r)] [] := by first | (simp [entryFrame, mkF, argsToLocals, Value.category]; done) | rfl
def Q9d (Z : State) (r : Addr) (tk : Addr) (sz : Int32) (ls : Int32) (fi : Int32) (kt : ClassId) (dd : Addr) (h0 : Heap) (n0 : Nat) (v : Option Value) (h : Heap) (L : List Loc) : Prop := v = none ∧ Fr n0 L ∧ Keep h0 h [r, tk, dd] ∧ Exa Z h r oR ∧ Fld Z h r oR "_tasks" "[Lcom/example/portunus/portunus/policy/WaitingTask;" (.ref tk) ∧ Fld Z h r oR "_mayBeLostAfterUs" "[D" (.ref dd) ∧ Fld Z h r oR "_size" "I" (.int sz) ∧ Fld Z h r oR "_lostSlots" "I" (.int (ls + (1 : Int32))) ∧ Fld Z h r oR "_first" "I" (.int fi) ∧ Arv Z h tk kt (.object oW) (8 : Int32) [] .null ∧ own_da Z h dd
set_option maxRecDepth 65536 in
set_option maxHeartbeats 40000000 in
theorem rm9d (l : Launch) (Z : State) (a0 : Array Value) (hw : ∀ d ∈ tables_1, d.before a0 Z = true) (ws : List Jvm.Cond) (r : Addr) (tk : Addr) (sz : Int32) (ls : Int32) (fi : Int32) (kt : ClassId) (dd : Addr) (h0 : Heap) (n0 : Nat) (Z0 : n0 ≤ h0.size) (E1 : Exa Z h0 r oR) (F0 : Fld Z h0 r oR "_tasks" "[Lcom/example/portunus/portunus/policy/WaitingTask;" (.ref tk)) (F1 : Fld Z h0 r oR "_mayBeLostAfterUs" "[D" (.ref dd)) (F2 : Fld Z h0 r oR "_size" "I" (.int sz)) (F3 : Fld Z h0 r oR "_lostSlots" "I" (.int ls)) (F4 : Fld Z h0 r oR "_first" "I" (.int fi)) (V1 : Arv Z h0 tk kt (.object oW) (8 : Int32) [] .null) (g1 : n0 ≤ r) (g2 : n0 ≤ tk) (n1 : r ≠ tk) (D1 : own_da Z h0 dd) (g3 : n0 ≤ dd) (n2 : r ≠ dd) (n3 : tk ≠ dd) :
    MetFree l (⟨oR, "markFirstOtherLost", "()V"⟩ : MethodName) (head1 (Jvm.Cond.code (⟨oR, "markFirstOtherLost", "()V"⟩ : MethodName) prog_68_method_15_code 1 none :: ws) ({ frames := 0, cells := 0, slots := 0, locals := 0 } : Room)) (fun a U => a = #[(.ref r)] ∧ Z.Warmed39 U.vm ∧ U.heap = h0) (fun _ _ _ _ _ => True) (fun _ U o U' => ∃ v L, o = .returned v ∧ Q9d Z r tk sz ls fi kt dd h0 n0 v U'.heap L ∧ FrameEnd U o U' L ({ frames := 0, cells := 0, slots := 0, locals := 0 } : Room).cells ({ frames := 0, cells := 0, slots := 0, locals := 0 } : Room).slots) := by
  refine MetFree.of_bodySF (plainFor_of_name pn0) hisR ?_
  intro p e s m args below meth c s₁ Bd hml0 hP hK
  obtain ⟨rfl, hZ, hh⟩ := hP
  have hx := Bd.exec
  have hby := Bd.bytes
  have hml : c.maxLocals = 1 := hml0
  have hown : s.vm.findClass oR = some m.cls := findClass_of_methodNamed Bd.named
  have hnm := (name_of_methodNamed Bd.named Bd.method).1
  have X0 : Stand p l e ({ frames := 0, cells := 0, slots := 0, locals := 0 } : Room) s m #[(.ref r)] below meth c s₁ [] 0 0 := Stand.of_body Bd
  have e0 : s₁.heap = h0 := by rw [← hh, Bd.state]; rfl
  have N0 := Fr.nil n0
  have pre0 : ∀ tZ, Steps p.tables e below (s₁.setTop (mkF m 0 #[.val (.ref r)] [])) tZ → Steps p.tables e below (s₁.setTop (entryFrame m #[(.ref r)] 1)) tZ := fun tZ kZ => castTop (ef9d m r) kZ
  obtain ⟨T1, X1, e1, st1⟩ := getF X0 hx hZ hown (host := "") (Or.inl (ow hw 43 rfl)) Via.refl e0 F3 (g := (mkF m 2 #[.val (.ref r)] [(.ref r), (.ref r)])) rfl rfl (hb hby d9_2)
  obtain ⟨T2, h2, X2, e2, W2, st2⟩ := putF X1 hx hZ hown (host := "") (Or.inl (ow hw 43 rfl)) Via.refl e1 F3 E1 (Or.inl (ow hw 44 rfl)) (ow hw 6 rfl) (ty := .int) (by decide) rfl rfl (g := (mkF m 7 #[.val (.ref r)] [(.int (ls + (1 : Int32))), (.ref r)])) rfl rfl (hb hby d9_7)
  have fw2 : Fld Z h2 r oR "_lostSlots" "I" (.int (ls + (1 : Int32))) := F3.same W2
  have Z3 : n0 ≤ h2.size := Nat.le_trans Z0 (Nat.le_of_eq W2.size.symm)
  have K4 : Keep h0 h2 [r, tk, dd] := (Keep.refl h0 [r, tk, dd]).wr W2 (Or.inl (List.mem_of_getElem? (i := 0) rfl))
  have N2 := Fr.snoc X2 N0 g1
  obtain ⟨fsZ, hrZ, hrun, hended, hW, hsame⟩ := X2.leave (v := none) (fun _ => rfl)
  have fa5 : Exa Z h2 r oR := (E1.wr W2)
  have fa6 : Fld Z h2 r oR "_tasks" "[Lcom/example/portunus/portunus/policy/WaitingTask;" (.ref tk) := (F0.other W2 (Or.inr (slot_ne (Or.inl (ow hw 20 rfl)) (Or.inl (ow hw 44 rfl)) (by decide) (t := (.array (.object oW))) (t' := .int) (by decide) (by decide))))
  have fa7 : Fld Z h2 r oR "_mayBeLostAfterUs" "[D" (.ref dd) := (F1.other W2 (Or.inr (slot_ne (Or.inl (ow hw 22 rfl)) (Or.inl (ow hw 44 rfl)) (by decide) (t := (.array .double)) (t' := .int) (by decide) (by decide))))
  have fa8 : Fld Z h2 r oR "_size" "I" (.int sz) := (F2.other W2 (Or.inr (slot_ne (Or.inl (ow hw 29 rfl)) (Or.inl (ow hw 44 rfl)) (by decide) (t := .int) (t' := .int) (by decide) (by decide))))
  have fa9 : Fld Z h2 r oR "_first" "I" (.int fi) := (F4.other W2 (Or.inr (slot_ne (Or.inl (ow hw 35 rfl)) (Or.inl (ow hw 44 rfl)) (by decide) (t := .int) (t' := .int) (by decide) (by decide))))
  have fa10 : Arv Z h2 tk kt (.object oW) (8 : Int32) [] .null := (V1.other W2 (Ne.symm n1))
  have fa11 : own_da Z h2 dd := (own_da_other D1 W2 (Ne.symm n2))
  refine ⟨_, _, pre0 _ ?_, hrun, hended, _, _, rfl, ?_, ⟨_, rfl⟩, hW, hsame.mono (by decide) (by decide)⟩
  · show Steps p.tables e below (s₁.setTop (mkF m 0 #[.val (.ref r)] [])) _
    refine XS.aloadN X0.here hx rfl (hb hby d9_0) rfl rfl ?_
    show Steps p.tables e below (s₁.setTop (mkF m 1 #[.val (.ref r)] [(.ref r)])) _
    refine XS.dup X0.here hx rfl (hb hby d9_1) rfl rfl ?_
    show Steps p.tables e below (s₁.setTop (mkF m 2 #[.val (.ref r)] [(.ref r), (.ref r)])) _
    refine st1 _ ?_
    show Steps p.tables e below (T1.setTop (mkF m 5 #[.val (.ref r)] [(.int ls), (.ref r)])) _
    refine XS.iconst X1.here hx rfl (hb hby d9_5) ?_
    show Steps p.tables e below (T1.setTop (mkF m 6 #[.val (.ref r)] [(.int (1 : Int32)), (.int ls), (.ref r)])) _
    refine XS.iadd X1.here hx rfl (hb hby d9_6) rfl ?_
    show Steps p.tables e below (T1.setTop (mkF m 7 #[.val (.ref r)] [(.int (ls + (1 : Int32))), (.ref r)])) _
    refine st2 _ ?_
    show Steps p.tables e below (T2.setTop (mkF m 10 #[.val (.ref r)] [])) _
    exact X2.returnOut hx Bd.returns (hb hby d9_10) hrZ
  · show Q9d Z r tk sz ls fi kt dd h0 n0 _ T2.heap _
    rw [e2]
    exact ⟨rfl, N2, K4, fa5, fa6, fa7, fa8, fw2, fa9, fa10, fa11⟩
theorem ef11zd (m : MethodId) (r : Addr) : entryFrame m #[(.ref r)] 3 = mkF m 0 #[.val (.ref r), .unset, .unset] [] := by first | (simp [entryFrame, mkF, argsToLocals, Value.category]; done) | rfl
def Q11zd (Z : State) (r : Addr) (tk : Addr) (sz : Int32) (ls : Int32) (fi : Int32) (kt : ClassId) (dd : Addr) (h0 : Heap) (n0 : Nat) (v : Option Value) (h : Heap) (L : List Loc) : Prop := ∃ (fn : Int32), v = some .null ∧ Fr n0 L ∧ Keep h0 h [r, tk, dd] ∧ Exa Z h r oR ∧ Fld Z h r oR "_tasks" "[Lcom/example/portunus/portunus/policy/WaitingTask;" (.ref tk) ∧ Fld Z h r oR "_mayBeLostAfterUs" "[D" (.ref dd) ∧ Fld Z h r oR "_size" "I" (.int (sz - (1 : Int32))) ∧ Fld Z h r oR "_lostSlots" "I" (.int ls) ∧ Fld Z h r oR "_first" "I" (.int fn) ∧ Arv Z h tk kt (.object oW) (8 : Int32) [] .null ∧ own_da Z h dd
set_option maxRecDepth 65536 in
set_option maxHeartbeats 40000000 in
theorem rm11zd (l : Launch) (Z : State) (a0 : Array Value) (hw : ∀ d ∈ tables_1, d.before a0 Z = true) (ws : List Jvm.Cond) (r : Addr) (tk : Addr) (sz : Int32) (ls : Int32) (fi : Int32) (kt : ClassId) (dd : Addr) (h0 : Heap) (n0 : Nat) (Z0 : n0 ≤ h0.size) (E1 : Exa Z h0 r oR) (F0 : Fld Z h0 r oR "_tasks" "[Lcom/example/portunus/portunus/policy/WaitingTask;" (.ref tk)) (F1 : Fld Z h0 r oR "_mayBeLostAfterUs" "[D" (.ref dd)) (F2 : Fld Z h0 r oR "_size" "I" (.int sz)) (F3 : Fld Z h0 r oR "_lostSlots" "I" (.int ls)) (F4 : Fld Z h0 r oR "_first" "I" (.int fi)) (V1 : Arv Z h0 tk kt (.object oW) (8 : Int32) [] .null) (g1 : n0 ≤ r) (g2 : n0 ≤ tk) (n1 : r ≠ tk) (D1 : own_da Z h0 dd) (g3 : n0 ≤ dd) (n2 : r ≠ dd) (n3 : tk ≠ dd) (hl : ls = (0 : Int32)) :
    MetFree l (⟨oR, "pollFirstOther", "()Lcom/example/portunus/portunus/policy/WaitingTask;"⟩ : MethodName) (head1 (Jvm.Cond.code (⟨oR, "pollFirstOther", "()Lcom/example/portunus/portunus/policy/WaitingTask;"⟩ : MethodName) prog_68_method_16_code 3 (some (.object oW)) :: ws) ({ frames := 1, cells := 0, slots := 0, locals := 14 } : Room)) (fun a U => a = #[(.ref r)] ∧ Z.Warmed39 U.vm ∧ U.heap = h0) (fun _ _ _ _ _ => True) (fun _ U o U' => ∃ v L, o = .returned v ∧ Q11zd Z r tk sz ls fi kt dd h0 n0 v U'.heap L ∧ FrameEnd U o U' L ({ frames := 1, cells := 0, slots := 0, locals := 14 } : Room).cells ({ frames := 1, cells := 0, slots := 0, locals := 14 } : Room).slots) := by
  refine MetFree.of_bodySF (plainFor_of_name pn0) hisR ?_
  intro p e s m args below meth c s₁ Bd hml0 hP hK
  obtain ⟨rfl, hZ, hh⟩ := hP
  have hx := Bd.exec
  have hby := Bd.bytes
  have hml : c.maxLocals = 3 := hml0
  have hown : s.vm.findClass oR = some m.cls := findClass_of_methodNamed Bd.named
  have hnm := (name_of_methodNamed Bd.named Bd.method).1
  have X0 : Stand p l e ({ frames := 1, cells := 0, slots := 0, locals := 14 } : Room) s m #[(.ref r)] below meth c s₁ [] 0 0 := Stand.of_body Bd
  have e0 : s₁.heap = h0 := by rw [← hh, Bd.state]; rfl
  have N0 := Fr.nil n0
  have pre0 : ∀ tZ, Steps p.tables e below (s₁.setTop (mkF m 0 #[.val (.ref r), .unset, .unset] [])) tZ → Steps p.tables e below (s₁.setTop (entryFrame m #[(.ref r)] 3)) tZ := fun tZ kZ => castTop (ef11zd m r) kZ
  obtain ⟨T1, X1, e1, st1⟩ := getF X0 hx hZ hown (host := "") (Or.inl (ow hw 43 rfl)) Via.refl e0 F3 (g := (mkF m 2 #[.val (.ref r), .unset, .unset] [(.ref r), (.ref r)])) rfl rfl (hb hby d11_2)
  obtain ⟨cq2, q2, q2'⟩ := E1.cell
  obtain ⟨_, _, ⟨T2, L2, k2, n2⟩, -, X2, ⟨Lc2, hQ2, l2, y2, z2⟩, st2⟩ := X1.privateBack hx (y := (⟨oR, "slot", "(I)I"⟩ : MethodName)) hown (mvT hZ (ow hw 30 rfl)) (mvT hZ (ow hw 31 rfl)) (own_sel hZ (ow hw 6 rfl) (ow hw 32 rfl) (ow hw 31 rfl) (by decide)) (Cond.privateMethod_at (mvP hZ (ow hw 32 rfl) (args := #[]))) (mvT hZ (ow hw 33 rfl)) (by decide) (backOf (W := 0) (rm6 l Z a0 hw [] r ls tk fi kt h0 n0 Z0 F0 F4 V1) hZ (ow hw 33 rfl) (ow hw 7 rfl) (by decide) (by decide)) (g := (mkF m 5 #[.val (.ref r), .unset, .unset] [(.int ls), (.ref r)])) rfl (by rw [hml]; rfl) (Steps.refl _) (a := r) (by rw [e1]; exact q2) q2' (argsL := [(.int ls)]) (rest := []) (lenOf pd2 rfl) rfl (by show 2 * 0 + _ ≤ _; exact Nat.le_of_eq rfl) (hb hby d11_5) (fun _ _ => ⟨rfl, e1, (by decide : 0 + 0 ≤ _), (by decide : 0 + 0 ≤ _)⟩)
  dsimp only [Pt.U, Pt.locs, Pt.cells, Pt.slots] at X2 l2 y2 z2 st2 hQ2
  subst l2 y2 z2
  obtain ⟨rfl, N2q, e2⟩ := hQ2
  have N2 := Fr.app N0 N2q
  obtain ⟨T3, X3, e3, st3⟩ := getF X2 hx hZ hown (host := "") (Or.inl (ow hw 19 rfl)) Via.refl e2 F0 (g := (mkF m 10 #[.val (.ref r), .val (.int ((fi + ls) &&& (7 : Int32))), .unset] [(.ref r)])) rfl rfl (hb hby d11_10)
  obtain ⟨c4, Arc4, qc4, Sc4, Mc4, Hc4, Gc4⟩ := id V1
  have hinc4 : ¬ (((fi + ls) &&& (7 : Int32)) < 0 ∨ c4.slots.size ≤ (((fi + ls) &&& (7 : Int32))).toNatClampNeg) := inb_of Sc4 (own_sl _)
  have hatc4 : c4.slots[(((fi + ls) &&& (7 : Int32))).toNatClampNeg]? = some .null := Hc4.at hinc4 (by simp)
  obtain ⟨T5, X5, e5, st5⟩ := getF X3 hx hZ hown (host := "") (Or.inl (ow hw 19 rfl)) Via.refl e3 F0 (g := (mkF m 17 #[.val (.ref r), .val (.int ((fi + ls) &&& (7 : Int32))), .val .null] [(.ref r)])) rfl rfl (hb hby d11_17)
  obtain ⟨c6, Arc6, qc6, Sc6, Mc6, Hc6, Gc6⟩ := id V1
  have hinc6 : ¬ (((fi + ls) &&& (7 : Int32)) < 0 ∨ c6.slots.size ≤ (((fi + ls) &&& (7 : Int32))).toNatClampNeg) := inb_of Sc6 (own_sl _)
  obtain ⟨T7, h7, X7, e7, W7, st7⟩ := stR X5 hx hZ e5 Arc6 (j := ((fi + ls) &&& (7 : Int32))) hinc6 rfl (Or.inl rfl) (g := (mkF m 22 #[.val (.ref r), .val (.int ((fi + ls) &&& (7 : Int32))), .val .null] [.null, (.int ((fi + ls) &&& (7 : Int32))), (.ref tk)])) rfl rfl (hb hby d11_22)
  have V7 : Arv Z h7 tk kt (.object oW) (8 : Int32) [] .null := own_nul V1 W7
  have Z8 : n0 ≤ h7.size := Nat.le_trans Z0 (Nat.le_of_eq W7.size.symm)
  have K9 : Keep h0 h7 [r, tk, dd] := (Keep.refl h0 [r, tk, dd]).wr W7 (Or.inl (List.mem_of_getElem? (i := 1) rfl))
  have N7 := Fr.snoc X7 N2 g2
  have fa10 : Fld Z h7 r oR "_lostSlots" "I" (.int ls) := (F3.other W7 (Or.inl n1))
  obtain ⟨T11, X11, e11, st11⟩ := getF X7 hx hZ hown (host := "") (Or.inl (ow hw 43 rfl)) Via.refl e7 fa10 (g := (mkF m 24 #[.val (.ref r), .val (.int ((fi + ls) &&& (7 : Int32))), .val .null] [(.ref r)])) rfl rfl (hb hby d11_24)
  have fa12 : Fld Z h7 r oR "_tasks" "[Lcom/example/portunus/portunus/policy/WaitingTask;" (.ref tk) := (F0.other W7 (Or.inl n1))
  have fa13 : Fld Z h7 r oR "_first" "I" (.int fi) := (F4.other W7 (Or.inl n1))
  have fa15 : Exa Z h7 r oR := (E1.wr W7)
  obtain ⟨cq14, q14, q14'⟩ := fa15.cell
  obtain ⟨_, _, ⟨T14, L14, k14, n14⟩, -, X14, ⟨Lc14, hQ14, l14, y14, z14⟩, st14⟩ := X11.privateBack hx (y := (⟨oR, "slot", "(I)I"⟩ : MethodName)) hown (mvT hZ (ow hw 30 rfl)) (mvT hZ (ow hw 31 rfl)) (own_sel hZ (ow hw 6 rfl) (ow hw 32 rfl) (ow hw 31 rfl) (by decide)) (Cond.privateMethod_at (mvP hZ (ow hw 32 rfl) (args := #[]))) (mvT hZ (ow hw 33 rfl)) (by decide) (backOf (W := 1) (rm6 l Z a0 hw [] r (1 : Int32) tk fi kt h7 n0 Z8 fa12 fa13 V7) hZ (ow hw 33 rfl) (ow hw 7 rfl) (by decide) (by decide)) (g := (mkF m 33 #[.val (.ref r), .val (.int ((fi + ls) &&& (7 : Int32))), .val .null] [(.int (1 : Int32)), (.ref r), (.ref r)])) rfl (by rw [hml]; rfl) (Steps.refl _) (a := r) (by rw [e11]; exact q14) q14' (argsL := [(.int (1 : Int32))]) (rest := [(.ref r)]) (lenOf pd2 rfl) rfl (by show 2 * 0 + _ ≤ _; exact Nat.le_of_eq rfl) (hb hby d11_33) (fun _ _ => ⟨rfl, e11, (by decide : 0 + 0 ≤ _), (by decide : 0 + 0 ≤ _)⟩)
  dsimp only [Pt.U, Pt.locs, Pt.cells, Pt.slots] at X14 l14 y14 z14 st14 hQ14
  subst l14 y14 z14
  obtain ⟨rfl, N14q, e14⟩ := hQ14
  have N14 := Fr.app N7 N14q
  obtain ⟨T16, h16, X16, e16, W16, st16⟩ := putF X14 hx hZ hown (host := "") (Or.inl (ow hw 34 rfl)) Via.refl e14 fa13 fa15 (Or.inl (ow hw 35 rfl)) (ow hw 6 rfl) (ty := .int) (by decide) rfl rfl (g := (mkF m 36 #[.val (.ref r), .val (.int ((fi + ls) &&& (7 : Int32))), .val .null] [(.int ((fi + (1 : Int32)) &&& (7 : Int32))), (.ref r)])) rfl rfl (hb hby d11_36)
  have fw16 : Fld Z h16 r oR "_first" "I" (.int ((fi + (1 : Int32)) &&& (7 : Int32))) := fa13.same W16
  have Z17 : n0 ≤ h16.size := Nat.le_trans Z8 (Nat.le_of_eq W16.size.symm)
  have K18 : Keep h0 h16 [r, tk, dd] := K9.wr W16 (Or.inl (List.mem_of_getElem? (i := 0) rfl))
  have N16 := Fr.snoc X16 N14 g1
  have fa19 : Fld Z h16 r oR "_size" "I" (.int sz) := ((F2.other W7 (Or.inl n1)).other W16 (Or.inr (slot_ne (Or.inl (ow hw 29 rfl)) (Or.inl (ow hw 35 rfl)) (by decide) (t := .int) (t' := .int) (by decide) (by decide))))
  obtain ⟨T20, X20, e20, st20⟩ := getF X16 hx hZ hown (host := "") (Or.inl (ow hw 28 rfl)) Via.refl e16 fa19 (g := (mkF m 41 #[.val (.ref r), .val (.int ((fi + ls) &&& (7 : Int32))), .val .null] [(.ref r), (.ref r)])) rfl rfl (hb hby d11_41)
  have fa21 : Exa Z h16 r oR := (fa15.wr W16)
  obtain ⟨T22, h22, X22, e22, W22, st22⟩ := putF X20 hx hZ hown (host := "") (Or.inl (ow hw 28 rfl)) Via.refl e20 fa19 fa21 (Or.inl (ow hw 29 rfl)) (ow hw 6 rfl) (ty := .int) (by decide) rfl rfl (g := (mkF m 46 #[.val (.ref r), .val (.int ((fi + ls) &&& (7 : Int32))), .val .null] [(.int (sz - (1 : Int32))), (.ref r)])) rfl rfl (hb hby d11_46)
  have fw22 : Fld Z h22 r oR "_size" "I" (.int (sz - (1 : Int32))) := fa19.same W22
  have Z23 : n0 ≤ h22.size := Nat.le_trans Z17 (Nat.le_of_eq W22.size.symm)
  have K24 : Keep h0 h22 [r, tk, dd] := K18.wr W22 (Or.inl (List.mem_of_getElem? (i := 0) rfl))
  have N22 := Fr.snoc X22 N16 g1
  obtain ⟨fsZ, hrZ, hrun, hended, hW, hsame⟩ := X22.leave (v := some .null) (fun h => by rw [Bd.returns] at h; cases h)
  have fa25 : Exa Z h22 r oR := (fa21.wr W22)
  have fa26 : Fld Z h22 r oR "_tasks" "[Lcom/example/portunus/portunus/policy/WaitingTask;" (.ref tk) := ((fa12.other W16 (Or.inr (slot_ne (Or.inl (ow hw 20 rfl)) (Or.inl (ow hw 35 rfl)) (by decide) (t := (.array (.object oW))) (t' := .int) (by decide) (by decide)))).other W22 (Or.inr (slot_ne (Or.inl (ow hw 20 rfl)) (Or.inl (ow hw 29 rfl)) (by decide) (t := (.array (.object oW))) (t' := .int) (by decide) (by decide))))
  have fa27 : Fld Z h22 r oR "_mayBeLostAfterUs" "[D" (.ref dd) := (((F1.other W7 (Or.inl n1)).other W16 (Or.inr (slot_ne (Or.inl (ow hw 22 rfl)) (Or.inl (ow hw 35 rfl)) (by decide) (t := (.array .double)) (t' := .int) (by decide) (by decide)))).other W22 (Or.inr (slot_ne (Or.inl (ow hw 22 rfl)) (Or.inl (ow hw 29 rfl)) (by decide) (t := (.array .double)) (t' := .int) (by decide) (by decide))))
  have fa28 : Fld Z h22 r oR "_lostSlots" "I" (.int ls) := ((fa10.other W16 (Or.inr (slot_ne (Or.inl (ow hw 44 rfl)) (Or.inl (ow hw 35 rfl)) (by decide) (t := .int) (t' := .int) (by decide) (by decide)))).other W22 (Or.inr (slot_ne (Or.inl (ow hw 44 rfl)) (Or.inl (ow hw 29 rfl)) (by decide) (t := .int) (t' := .int) (by decide) (by decide))))
  have fa29 : Fld Z h22 r oR "_first" "I" (.int ((fi + (1 : Int32)) &&& (7 : Int32))) := (fw16.other W22 (Or.inr (slot_ne (Or.inl (ow hw 35 rfl)) (Or.inl (ow hw 29 rfl)) (by decide) (t := .int) (t' := .int) (by decide) (by decide))))
  have fa30 : Arv Z h22 tk kt (.object oW) (8 : Int32) [] .null := ((V7.other W16 (Ne.symm n1)).other W22 (Ne.symm n1))
  have fa31 : own_da Z h22 dd := (own_da_other (own_da_other (own_da_other D1 W7 (Ne.symm n3)) W16 (Ne.symm n2)) W22 (Ne.symm n2))
  refine ⟨_, _, pre0 _ ?_, hrun, hended, _, _, rfl, ?_, ⟨_, rfl⟩, hW, hsame.mono (by decide) (by decide)⟩
  · show Steps p.tables e below (s₁.setTop (mkF m 0 #[.val (.ref r), .unset, .unset] [])) _
    refine XS.aloadN X0.here hx rfl (hb hby d11_0) rfl rfl ?_
    show Steps p.tables e below (s₁.setTop (mkF m 1 #[.val (.ref r), .unset, .unset] [(.ref r)])) _
    refine XS.aloadN X0.here hx rfl (hb hby d11_1) rfl rfl ?_
    show Steps p.tables e below (s₁.setTop (mkF m 2 #[.val (.ref r), .unset, .unset] [(.ref r), (.ref r)])) _
    refine st1 _ ?_
    show Steps p.tables e below (T1.setTop (mkF m 5 #[.val (.ref r), .unset, .unset] [(.int ls), (.ref r)])) _
    refine st2.trans ?_
    show Steps p.tables e below (T2.setTop (mkF m 8 #[.val (.ref r), .unset, .unset] [(.int ((fi + ls) &&& (7 : Int32)))])) _
    refine XS.istoreN X2.here hx rfl (hb hby d11_8) rfl (l' := #[.val (.ref r), .val (.int ((fi + ls) &&& (7 : Int32))), .unset]) rfl ?_
    show Steps p.tables e below (T2.setTop (mkF m 9 #[.val (.ref r), .val (.int ((fi + ls) &&& (7 : Int32))), .unset] [])) _
    refine XS.aloadN X2.here hx rfl (hb hby d11_9) rfl rfl ?_
    show Steps p.tables e below (T2.setTop (mkF m 10 #[.val (.ref r), .val (.int ((fi + ls) &&& (7 : Int32))), .unset] [(.ref r)])) _
    refine st3 _ ?_
    show Steps p.tables e below (T3.setTop (mkF m 13 #[.val (.ref r), .val (.int ((fi + ls) &&& (7 : Int32))), .unset] [(.ref tk)])) _
    refine XS.iloadN X3.here hx rfl (hb hby d11_13) rfl  ?_
    show Steps p.tables e below (T3.setTop (mkF m 14 #[.val (.ref r), .val (.int ((fi + ls) &&& (7 : Int32))), .unset] [(.int ((fi + ls) &&& (7 : Int32))), (.ref tk)])) _
    refine X3.aaload hx (j := ((fi + ls) &&& (7 : Int32))) (v := .null) (by rw [e3]; exact Arc4.1) (State.isArrayOf_alike hZ.alike Arc4.2.1) rfl Arc4.2.2 hinc4 hatc4 (g := (mkF m 14 #[.val (.ref r), .val (.int ((fi + ls) &&& (7 : Int32))), .unset] [(.int ((fi + ls) &&& (7 : Int32))), (.ref tk)])) rfl rfl (hb hby d11_14) _ ?_
    show Steps p.tables e below (T3.setTop (mkF m 15 #[.val (.ref r), .val (.int ((fi + ls) &&& (7 : Int32))), .unset] [.null])) _
    refine XS.astoreN X3.here hx rfl (hb hby d11_15) rfl rfl (l' := #[.val (.ref r), .val (.int ((fi + ls) &&& (7 : Int32))), .val .null]) rfl ?_
    show Steps p.tables e below (T3.setTop (mkF m 16 #[.val (.ref r), .val (.int ((fi + ls) &&& (7 : Int32))), .val .null] [])) _
    refine XS.aloadN X3.here hx rfl (hb hby d11_16) rfl rfl ?_
    show Steps p.tables e below (T3.setTop (mkF m 17 #[.val (.ref r), .val (.int ((fi + ls) &&& (7 : Int32))), .val .null] [(.ref r)])) _
    refine st5 _ ?_
    show Steps p.tables e below (T5.setTop (mkF m 20 #[.val (.ref r), .val (.int ((fi + ls) &&& (7 : Int32))), .val .null] [(.ref tk)])) _
    refine XS.iloadN X5.here hx rfl (hb hby d11_20) rfl  ?_
    show Steps p.tables e below (T5.setTop (mkF m 21 #[.val (.ref r), .val (.int ((fi + ls) &&& (7 : Int32))), .val .null] [(.int ((fi + ls) &&& (7 : Int32))), (.ref tk)])) _
    refine XS.aconstNull X5.here hx rfl (hb hby d11_21) ?_
    show Steps p.tables e below (T5.setTop (mkF m 22 #[.val (.ref r), .val (.int ((fi + ls) &&& (7 : Int32))), .val .null] [.null, (.int ((fi + ls) &&& (7 : Int32))), (.ref tk)])) _
    refine st7 _ ?_
    show Steps p.tables e below (T7.setTop (mkF m 23 #[.val (.ref r), .val (.int ((fi + ls) &&& (7 : Int32))), .val .null] [])) _
    refine XS.aloadN X7.here hx rfl (hb hby d11_23) rfl rfl ?_
    show Steps p.tables e below (T7.setTop (mkF m 24 #[.val (.ref r), .val (.int ((fi + ls) &&& (7 : Int32))), .val .null] [(.ref r)])) _
    refine st11 _ ?_
    show Steps p.tables e below (T11.setTop (mkF m 27 #[.val (.ref r), .val (.int ((fi + ls) &&& (7 : Int32))), .val .null] [(.int ls)])) _
    refine XS.ifNo X11.here hx rfl (hb hby d11_27) rfl ((if0 _ _).trans (teq hl).2) ?_
    show Steps p.tables e below (T11.setTop (mkF m 30 #[.val (.ref r), .val (.int ((fi + ls) &&& (7 : Int32))), .val .null] [])) _
    refine XS.aloadN X11.here hx rfl (hb hby d11_30) rfl rfl ?_
    show Steps p.tables e below (T11.setTop (mkF m 31 #[.val (.ref r), .val (.int ((fi + ls) &&& (7 : Int32))), .val .null] [(.ref r)])) _
    refine XS.aloadN X11.here hx rfl (hb hby d11_31) rfl rfl ?_
    show Steps p.tables e below (T11.setTop (mkF m 32 #[.val (.ref r), .val (.int ((fi + ls) &&& (7 : Int32))), .val .null] [(.ref r), (.ref r)])) _
    refine XS.iconst X11.here hx rfl (hb hby d11_32) ?_
    show Steps p.tables e below (T11.setTop (mkF m 33 #[.val (.ref r), .val (.int ((fi + ls) &&& (7 : Int32))), .val .null] [(.int (1 : Int32)), (.ref r), (.ref r)])) _
    refine st14.trans ?_
    show Steps p.tables e below (T14.setTop (mkF m 36 #[.val (.ref r), .val (.int ((fi + ls) &&& (7 : Int32))), .val .null] [(.int ((fi + (1 : Int32)) &&& (7 : Int32))), (.ref r)])) _
    refine st16 _ ?_
    show Steps p.tables e below (T16.setTop (mkF m 39 #[.val (.ref r), .val (.int ((fi + ls) &&& (7 : Int32))), .val .null] [])) _
    refine XS.aloadN X16.here hx rfl (hb hby d11_39) rfl rfl ?_
    show Steps p.tables e below (T16.setTop (mkF m 40 #[.val (.ref r), .val (.int ((fi + ls) &&& (7 : Int32))), .val .null] [(.ref r)])) _
    refine XS.dup X16.here hx rfl (hb hby d11_40) rfl rfl ?_
    show Steps p.tables e below (T16.setTop (mkF m 41 #[.val (.ref r), .val (.int ((fi + ls) &&& (7 : Int32))), .val .null] [(.ref r), (.ref r)])) _
    refine st20 _ ?_
    show Steps p.tables e below (T20.setTop (mkF m 44 #[.val (.ref r), .val (.int ((fi + ls) &&& (7 : Int32))), .val .null] [(.int sz), (.ref r)])) _
    refine XS.iconst X20.here hx rfl (hb hby d11_44) ?_
    show Steps p.tables e below (T20.setTop (mkF m 45 #[.val (.ref r), .val (.int ((fi + ls) &&& (7 : Int32))), .val .null] [(.int (1 : Int32)), (.int sz), (.ref r)])) _
    refine XS.isub X20.here hx rfl (hb hby d11_45) rfl ?_
    show Steps p.tables e below (T20.setTop (mkF m 46 #[.val (.ref r), .val (.int ((fi + ls) &&& (7 : Int32))), .val .null] [(.int (sz - (1 : Int32))), (.ref r)])) _
    refine st22 _ ?_
    show Steps p.tables e below (T22.setTop (mkF m 49 #[.val (.ref r), .val (.int ((fi + ls) &&& (7 : Int32))), .val .null] [])) _
    refine XS.goto X22.here hx rfl (pc0 := 49) (pc' := 62) rfl (hb hby d11_49) (by decide) (by decide) ?_
    show Steps p.tables e below (T22.setTop (mkF m 62 #[.val (.ref r), .val (.int ((fi + ls) &&& (7 : Int32))), .val .null] [])) _
    refine XS.aloadN X22.here hx rfl (hb hby d11_62) rfl rfl ?_
    show Steps p.tables e below (T22.setTop (mkF m 63 #[.val (.ref r), .val (.int ((fi + ls) &&& (7 : Int32))), .val .null] [.null])) _
    jvm_step X22.here [X22.here.top, hx, (hb hby d11_63), X22.method', Bd.returns, Value.isRef, FieldType.isReference]
    first | (intro acts; rw [hrZ _ acts rfl rfl rfl]) | rw [hrZ _ _ rfl rfl rfl]
    exact Steps.refl _
  · show Q11zd Z r tk sz ls fi kt dd h0 n0 _ T22.heap _
    rw [e22]
    exact ⟨((fi + (1 : Int32)) &&& (7 : Int32)), rfl, N22, K24, fa25, fa26, fa27, fw22, fa28, fa29, fa30, fa31⟩
theorem ef11nd (m : MethodId) (r : Addr) : entryFrame m #[(.ref r)] 3 = mkF m 0 #[.val (.ref r), .unset, .unset] [] := by first | (simp [entryFrame, mkF, argsToLocals, Value.category]; done) | rfl
def Q11nd (Z : State) (r : Addr) (tk : Addr) (sz : Int32) (ls : Int32) (fi : Int32) (kt : ClassId) (dd : Addr) (h0 : Heap) (n0 : Nat) (v : Option Value) (h : Heap) (L : List Loc) : Prop := ∃ (fn : Int32), v = some .null ∧ Fr n0 L ∧ Keep h0 h [r, tk, dd] ∧ Exa Z h r oR ∧ Fld Z h r oR "_tasks" "[Lcom/example/portunus/portunus/policy/WaitingTask;" (.ref tk) ∧ Fld Z h r oR "_mayBeLostAfterUs" "[D" (.ref dd) ∧ Fld Z h r oR "_size" "I" (.int sz) ∧ Fld Z h r oR "_lostSlots" "I" (.int (ls + (1 : Int32))) ∧ Fld Z h r oR "_first" "I" (.int fn) ∧ Arv Z h tk kt (.object oW) (8 : Int32) [] .null ∧ own_da Z h dd
set_option maxRecDepth 65536 in
set_option maxHeartbeats 40000000 in
theorem rm11nd (l : Launch) (Z : State) (a0 : Array Value) (hw : ∀ d ∈ tables_1, d.before a0 Z = true) (ws : List Jvm.Cond) (r : Addr) (tk : Addr) (sz : Int32) (ls : Int32) (fi : Int32) (kt : ClassId) (dd : Addr) (h0 : Heap) (n0 : Nat) (Z0 : n0 ≤ h0.size) (E1 : Exa Z h0 r oR) (F0 : Fld Z h0 r oR "_tasks" "[Lcom/example/portunus/portunus/policy/WaitingTask;" (.ref tk)) (F1 : Fld Z h0 r oR "_mayBeLostAfterUs" "[D" (.ref dd)) (F2 : Fld Z h0 r oR "_size" "I" (.int sz)) (F3 : Fld Z h0 r oR "_lostSlots" "I" (.int ls)) (F4 : Fld Z h0 r oR "_first" "I" (.int fi)) (V1 : Arv Z h0 tk kt (.object oW) (8 : Int32) [] .null) (g1 : n0 ≤ r) (g2 : n0 ≤ tk) (n1 : r ≠ tk) (D1 : own_da Z h0 dd) (g3 : n0 ≤ dd) (n2 : r ≠ dd) (n3 : tk ≠ dd) (hl : ¬ (ls = (0 : Int32))) :
    MetFree l (⟨oR, "pollFirstOther", "()Lcom/example/portunus/portunus/policy/WaitingTask;"⟩ : MethodName) (head1 (Jvm.Cond.code (⟨oR, "pollFirstOther", "()Lcom/example/portunus/portunus/policy/WaitingTask;"⟩ : MethodName) prog_68_method_16_code 3 (some (.object oW)) :: ws) ({ frames := 1, cells := 0, slots := 0, locals := 13 } : Room)) (fun a U => a = #[(.ref r)] ∧ Z.Warmed39 U.vm ∧ U.heap = h0) (fun _ _ _ _ _ => True) (fun _ U o U' => ∃ v L, o = .returned v ∧ Q11nd Z r tk sz ls fi kt dd h0 n0 v U'.heap L ∧ FrameEnd U o U' L ({ frames := 1, cells := 0, slots := 0, locals := 13 } : Room).cells ({ frames := 1, cells := 0, slots := 0, locals := 13 } : Room).slots) := by
  refine MetFree.of_bodySF (plainFor_of_name pn0) hisR ?_
  intro p e s m args below meth c s₁ Bd hml0 hP hK
  obtain ⟨rfl, hZ, hh⟩ := hP
  have hx := Bd.exec
  have hby := Bd.bytes
  have hml : c.maxLocals = 3 := hml0
  have hown : s.vm.findClass oR = some m.cls := findClass_of_methodNamed Bd.named
  have hnm := (name_of_methodNamed Bd.named Bd.method).1
  have X0 : Stand p l e ({ frames := 1, cells := 0, slots := 0, locals := 13 } : Room) s m #[(.ref r)] below meth c s₁ [] 0 0 := Stand.of_body Bd
  have e0 : s₁.heap = h0 := by rw [← hh, Bd.state]; rfl
  have N0 := Fr.nil n0
  have pre0 : ∀ tZ, Steps p.tables e below (s₁.setTop (mkF m 0 #[.val (.ref r), .unset, .unset] [])) tZ → Steps p.tables e below (s₁.setTop (entryFrame m #[(.ref r)] 3)) tZ := fun tZ kZ => castTop (ef11nd m r) kZ
  obtain ⟨T1, X1, e1, st1⟩ := getF X0 hx hZ hown (host := "") (Or.inl (ow hw 43 rfl)) Via.refl e0 F3 (g := (mkF m 2 #[.val (.ref r), .unset, .unset] [(.ref r), (.ref r)])) rfl rfl (hb hby d11_2)
  obtain ⟨cq2, q2, q2'⟩ := E1.cell
  obtain ⟨_, _, ⟨T2, L2, k2, n2⟩, -, X2, ⟨Lc2, hQ2, l2, y2, z2⟩, st2⟩ := X1.privateBack hx (y := (⟨oR, "slot", "(I)I"⟩ : MethodName)) hown (mvT hZ (ow hw 30 rfl)) (mvT hZ (ow hw 31 rfl)) (own_sel hZ (ow hw 6 rfl) (ow hw 32 rfl) (ow hw 31 rfl) (by decide)) (Cond.privateMethod_at (mvP hZ (ow hw 32 rfl) (args := #[]))) (mvT hZ (ow hw 33 rfl)) (by decide) (backOf (W := 0) (rm6 l Z a0 hw [] r ls tk fi kt h0 n0 Z0 F0 F4 V1) hZ (ow hw 33 rfl) (ow hw 7 rfl) (by decide) (by decide)) (g := (mkF m 5 #[.val (.ref r), .unset, .unset] [(.int ls), (.ref r)])) rfl (by rw [hml]; rfl) (Steps.refl _) (a := r) (by rw [e1]; exact q2) q2' (argsL := [(.int ls)]) (rest := []) (lenOf pd2 rfl) rfl (by show 2 * 0 + _ ≤ _; exact Nat.le_of_eq rfl) (hb hby d11_5) (fun _ _ => ⟨rfl, e1, (by decide : 0 + 0 ≤ _), (by decide : 0 + 0 ≤ _)⟩)
  dsimp only [Pt.U, Pt.locs, Pt.cells, Pt.slots] at X2 l2 y2 z2 st2 hQ2
  subst l2 y2 z2
  obtain ⟨rfl, N2q, e2⟩ := hQ2
  have N2 := Fr.app N0 N2q
  obtain ⟨T3, X3, e3, st3⟩ := getF X2 hx hZ hown (host := "") (Or.inl (ow hw 19 rfl)) Via.refl e2 F0 (g := (mkF m 10 #[.val (.ref r), .val (.int ((fi + ls) &&& (7 : Int32))), .unset] [(.ref r)])) rfl rfl (hb hby d11_10)
  obtain ⟨c4, Arc4, qc4, Sc4, Mc4, Hc4, Gc4⟩ := id V1
  have hinc4 : ¬ (((fi + ls) &&& (7 : Int32)) < 0 ∨ c4.slots.size ≤ (((fi + ls) &&& (7 : Int32))).toNatClampNeg) := inb_of Sc4 (own_sl _)
  have hatc4 : c4.slots[(((fi + ls) &&& (7 : Int32))).toNatClampNeg]? = some .null := Hc4.at hinc4 (by simp)
  obtain ⟨T5, X5, e5, st5⟩ := getF X3 hx hZ hown (host := "") (Or.inl (ow hw 19 rfl)) Via.refl e3 F0 (g := (mkF m 17 #[.val (.ref r), .val (.int ((fi + ls) &&& (7 : Int32))), .val .null] [(.ref r)])) rfl rfl (hb hby d11_17)
  obtain ⟨c6, Arc6, qc6, Sc6, Mc6, Hc6, Gc6⟩ := id V1
  have hinc6 : ¬ (((fi + ls) &&& (7 : Int32)) < 0 ∨ c6.slots.size ≤ (((fi + ls) &&& (7 : Int32))).toNatClampNeg) := inb_of Sc6 (own_sl _)
  obtain ⟨T7, h7, X7, e7, W7, st7⟩ := stR X5 hx hZ e5 Arc6 (j := ((fi + ls) &&& (7 : Int32))) hinc6 rfl (Or.inl rfl) (g := (mkF m 22 #[.val (.ref r), .val (.int ((fi + ls) &&& (7 : Int32))), .val .null] [.null, (.int ((fi + ls) &&& (7 : Int32))), (.ref tk)])) rfl rfl (hb hby d11_22)
  have V7 : Arv Z h7 tk kt (.object oW) (8 : Int32) [] .null := own_nul V1 W7
  have Z8 : n0 ≤ h7.size := Nat.le_trans Z0 (Nat.le_of_eq W7.size.symm)
  have K9 : Keep h0 h7 [r, tk, dd] := (Keep.refl h0 [r, tk, dd]).wr W7 (Or.inl (List.mem_of_getElem? (i := 1) rfl))
  have N7 := Fr.snoc X7 N2 g2
  have fa10 : Fld Z h7 r oR "_lostSlots" "I" (.int ls) := (F3.other W7 (Or.inl n1))
  obtain ⟨T11, X11, e11, st11⟩ := getF X7 hx hZ hown (host := "") (Or.inl (ow hw 43 rfl)) Via.refl e7 fa10 (g := (mkF m 24 #[.val (.ref r), .val (.int ((fi + ls) &&& (7 : Int32))), .val .null] [(.ref r)])) rfl rfl (hb hby d11_24)
  obtain ⟨T12, X12, e12, st12⟩ := getF X11 hx hZ hown (host := "") (Or.inl (ow hw 43 rfl)) Via.refl e11 fa10 (g := (mkF m 54 #[.val (.ref r), .val (.int ((fi + ls) &&& (7 : Int32))), .val .null] [(.ref r), (.ref r)])) rfl rfl (hb hby d11_54)
  have fa13 : Exa Z h7 r oR := (E1.wr W7)
  obtain ⟨T14, h14, X14, e14, W14, st14⟩ := putF X12 hx hZ hown (host := "") (Or.inl (ow hw 43 rfl)) Via.refl e12 fa10 fa13 (Or.inl (ow hw 44 rfl)) (ow hw 6 rfl) (ty := .int) (by decide) rfl rfl (g := (mkF m 59 #[.val (.ref r), .val (.int ((fi + ls) &&& (7 : Int32))), .val .null] [(.int (ls + (1 : Int32))), (.ref r)])) rfl rfl (hb hby d11_59)
  have fw14 : Fld Z h14 r oR "_lostSlots" "I" (.int (ls + (1 : Int32))) := fa10.same W14
  have Z15 : n0 ≤ h14.size := Nat.le_trans Z8 (Nat.le_of_eq W14.size.symm)
  have K16 : Keep h0 h14 [r, tk, dd] := K9.wr W14 (Or.inl (List.mem_of_getElem? (i := 0) rfl))
  have N14 := Fr.snoc X14 N7 g1
  obtain ⟨fsZ, hrZ, hrun, hended, hW, hsame⟩ := X14.leave (v := some .null) (fun h => by rw [Bd.returns] at h; cases h)
  have fa17 : Exa Z h14 r oR := (fa13.wr W14)
  have fa18 : Fld Z h14 r oR "_tasks" "[Lcom/example/portunus/portunus/policy/WaitingTask;" (.ref tk) := ((F0.other W7 (Or.inl n1)).other W14 (Or.inr (slot_ne (Or.inl (ow hw 20 rfl)) (Or.inl (ow hw 44 rfl)) (by decide) (t := (.array (.object oW))) (t' := .int) (by decide) (by decide))))
  have fa19 : Fld Z h14 r oR "_mayBeLostAfterUs" "[D" (.ref dd) := ((F1.other W7 (Or.inl n1)).other W14 (Or.inr (slot_ne (Or.inl (ow hw 22 rfl)) (Or.inl (ow hw 44 rfl)) (by decide) (t := (.array .double)) (t' := .int) (by decide) (by decide))))
  have fa20 : Fld Z h14 r oR "_size" "I" (.int sz) := ((F2.other W7 (Or.inl n1)).other W14 (Or.inr (slot_ne (Or.inl (ow hw 29 rfl)) (Or.inl (ow hw 44 rfl)) (by decide) (t := .int) (t' := .int) (by decide) (by decide))))
  have fa21 : Fld Z h14 r oR "_first" "I" (.int fi) := ((F4.other W7 (Or.inl n1)).other W14 (Or.inr (slot_ne (Or.inl (ow hw 35 rfl)) (Or.inl (ow hw 44 rfl)) (by decide) (t := .int) (t' := .int) (by decide) (by decide))))
  have fa22 : Arv Z h14 tk kt (.object oW) (8 : Int32) [] .null := (V7.other W14 (Ne.symm n1))
  have fa23 : own_da Z h14 dd := (own_da_other (own_da_other D1 W7 (Ne.symm n3)) W14 (Ne.symm n2))
  refine ⟨_, _, pre0 _ ?_, hrun, hended, _, _, rfl, ?_, ⟨_, rfl⟩, hW, hsame.mono (by decide) (by decide)⟩
  · show Steps p.tables e below (s₁.setTop (mkF m 0 #[.val (.ref r), .unset, .unset] [])) _
    refine XS.aloadN X0.here hx rfl (hb hby d11_0) rfl rfl ?_
    show Steps p.tables e below (s₁.setTop (mkF m 1 #[.val (.ref r), .unset, .unset] [(.ref r)])) _
    refine XS.aloadN X0.here hx rfl (hb hby d11_1) rfl rfl ?_
    show Steps p.tables e below (s₁.setTop (mkF m 2 #[.val (.ref r), .unset, .unset] [(.ref r), (.ref r)])) _
    refine st1 _ ?_
    show Steps p.tables e below (T1.setTop (mkF m 5 #[.val (.ref r), .unset, .unset] [(.int ls), (.ref r)])) _
    refine st2.trans ?_
    show Steps p.tables e below (T2.setTop (mkF m 8 #[.val (.ref r), .unset, .unset] [(.int ((fi + ls) &&& (7 : Int32)))])) _
    refine XS.istoreN X2.here hx rfl (hb hby d11_8) rfl (l' := #[.val (.ref r), .val (.int ((fi + ls) &&& (7 : Int32))), .unset]) rfl ?_
    show Steps p.tables e below (T2.setTop (mkF m 9 #[.val (.ref r), .val (.int ((fi + ls) &&& (7 : Int32))), .unset] [])) _
    refine XS.aloadN X2.here hx rfl (hb hby d11_9) rfl rfl ?_
    show Steps p.tables e below (T2.setTop (mkF m 10 #[.val (.ref r), .val (.int ((fi + ls) &&& (7 : Int32))), .unset] [(.ref r)])) _
    refine st3 _ ?_
    show Steps p.tables e below (T3.setTop (mkF m 13 #[.val (.ref r), .val (.int ((fi + ls) &&& (7 : Int32))), .unset] [(.ref tk)])) _
    refine XS.iloadN X3.here hx rfl (hb hby d11_13) rfl  ?_
    show Steps p.tables e below (T3.setTop (mkF m 14 #[.val (.ref r), .val (.int ((fi + ls) &&& (7 : Int32))), .unset] [(.int ((fi + ls) &&& (7 : Int32))), (.ref tk)])) _
    refine X3.aaload hx (j := ((fi + ls) &&& (7 : Int32))) (v := .null) (by rw [e3]; exact Arc4.1) (State.isArrayOf_alike hZ.alike Arc4.2.1) rfl Arc4.2.2 hinc4 hatc4 (g := (mkF m 14 #[.val (.ref r), .val (.int ((fi + ls) &&& (7 : Int32))), .unset] [(.int ((fi + ls) &&& (7 : Int32))), (.ref tk)])) rfl rfl (hb hby d11_14) _ ?_
    show Steps p.tables e below (T3.setTop (mkF m 15 #[.val (.ref r), .val (.int ((fi + ls) &&& (7 : Int32))), .unset] [.null])) _
    refine XS.astoreN X3.here hx rfl (hb hby d11_15) rfl rfl (l' := #[.val (.ref r), .val (.int ((fi + ls) &&& (7 : Int32))), .val .null]) rfl ?_
    show Steps p.tables e below (T3.setTop (mkF m 16 #[.val (.ref r), .val (.int ((fi + ls) &&& (7 : Int32))), .val .null] [])) _
    refine XS.aloadN X3.here hx rfl (hb hby d11_16) rfl rfl ?_
    show Steps p.tables e below (T3.setTop (mkF m 17 #[.val (.ref r), .val (.int ((fi + ls) &&& (7 : Int32))), .val .null] [(.ref r)])) _
    refine st5 _ ?_
    show Steps p.tables e below (T5.setTop (mkF m 20 #[.val (.ref r), .val (.int ((fi + ls) &&& (7 : Int32))), .val .null] [(.ref tk)])) _
    refine XS.iloadN X5.here hx rfl (hb hby d11_20) rfl  ?_
    show Steps p.tables e below (T5.setTop (mkF m 21 #[.val (.ref r), .val (.int ((fi + ls) &&& (7 : Int32))), .val .null] [(.int ((fi + ls) &&& (7 : Int32))), (.ref tk)])) _
    refine XS.aconstNull X5.here hx rfl (hb hby d11_21) ?_
    show Steps p.tables e below (T5.setTop (mkF m 22 #[.val (.ref r), .val (.int ((fi + ls) &&& (7 : Int32))), .val .null] [.null, (.int ((fi + ls) &&& (7 : Int32))), (.ref tk)])) _
    refine st7 _ ?_
    show Steps p.tables e below (T7.setTop (mkF m 23 #[.val (.ref r), .val (.int ((fi + ls) &&& (7 : Int32))), .val .null] [])) _
    refine XS.aloadN X7.here hx rfl (hb hby d11_23) rfl rfl ?_
    show Steps p.tables e below (T7.setTop (mkF m 24 #[.val (.ref r), .val (.int ((fi + ls) &&& (7 : Int32))), .val .null] [(.ref r)])) _
    refine st11 _ ?_
    show Steps p.tables e below (T11.setTop (mkF m 27 #[.val (.ref r), .val (.int ((fi + ls) &&& (7 : Int32))), .val .null] [(.int ls)])) _
    refine XS.ifYes X11.here hx rfl (pc0 := 27) (pc' := 52) rfl (hb hby d11_27) rfl ((if0 _ _).trans (feq hl).2) (by decide) (by decide) ?_
    show Steps p.tables e below (T11.setTop (mkF m 52 #[.val (.ref r), .val (.int ((fi + ls) &&& (7 : Int32))), .val .null] [])) _
    refine XS.aloadN X11.here hx rfl (hb hby d11_52) rfl rfl ?_
    show Steps p.tables e below (T11.setTop (mkF m 53 #[.val (.ref r), .val (.int ((fi + ls) &&& (7 : Int32))), .val .null] [(.ref r)])) _
    refine XS.dup X11.here hx rfl (hb hby d11_53) rfl rfl ?_
    show Steps p.tables e below (T11.setTop (mkF m 54 #[.val (.ref r), .val (.int ((fi + ls) &&& (7 : Int32))), .val .null] [(.ref r), (.ref r)])) _
    refine st12 _ ?_
    show Steps p.tables e below (T12.setTop (mkF m 57 #[.val (.ref r), .val (.int ((fi + ls) &&& (7 : Int32))), .val .null] [(.int ls), (.ref r)])) _
    refine XS.iconst X12.here hx rfl (hb hby d11_57) ?_
    show Steps p.tables e below (T12.setTop (mkF m 58 #[.val (.ref r), .val (.int ((fi + ls) &&& (7 : Int32))), .val .null] [(.int (1 : Int32)), (.int ls), (.ref r)])) _
    refine XS.iadd X12.here hx rfl (hb hby d11_58) rfl ?_
    show Steps p.tables e below (T12.setTop (mkF m 59 #[.val (.ref r), .val (.int ((fi + ls) &&& (7 : Int32))), .val .null] [(.int (ls + (1 : Int32))), (.ref r)])) _
    refine st14 _ ?_
    show Steps p.tables e below (T14.setTop (mkF m 62 #[.val (.ref r), .val (.int ((fi + ls) &&& (7 : Int32))), .val .null] [])) _
    refine XS.aloadN X14.here hx rfl (hb hby d11_62) rfl rfl ?_
    show Steps p.tables e below (T14.setTop (mkF m 63 #[.val (.ref r), .val (.int ((fi + ls) &&& (7 : Int32))), .val .null] [.null])) _
    jvm_step X14.here [X14.here.top, hx, (hb hby d11_63), X14.method', Bd.returns, Value.isRef, FieldType.isReference]
    first | (intro acts; rw [hrZ _ acts rfl rfl rfl]) | rw [hrZ _ _ rfl rfl rfl]
    exact Steps.refl _
  · show Q11nd Z r tk sz ls fi kt dd h0 n0 _ T14.heap _
    rw [e14]
    exact ⟨fi, rfl, N14, K16, fa17, fa18, fa19, fa20, fw14, fa21, fa22, fa23⟩
theorem ef8d (m : MethodId) (r : Addr) (p1 : Int32) : entryFrame m #[(.ref r), (.int p1)] 2 = mkF m 0 #[.val (.ref r), .val (.int p1)] [] := by first | (simp [entryFrame, mkF, argsToLocals, Value.category]; done) | rfl
def Q8d (Z : State) (r : Addr) (p1 : Int32) (tk : Addr) (sz : Int32) (ls : Int32) (fi : Int32) (kt : ClassId) (dd : Addr) (h0 : Heap) (n0 : Nat) (v : Option Value) (h : Heap) (L : List Loc) : Prop := v = none ∧ Fr n0 L ∧ Keep h0 h [r, tk, dd] ∧ Exa Z h r oR ∧ Fld Z h r oR "_tasks" "[Lcom/example/portunus/portunus/policy/WaitingTask;" (.ref tk) ∧ Fld Z h r oR "_mayBeLostAfterUs" "[D" (.ref dd) ∧ Fld Z h r oR "_size" "I" (.int sz) ∧ Fld Z h r oR "_lostSlots" "I" (.int (ls + p1)) ∧ Fld Z h r oR "_first" "I" (.int fi) ∧ Arv Z h tk kt (.object oW) (8 : Int32) [] .null ∧ own_da Z h dd
set_option maxRecDepth 65536 in
set_option maxHeartbeats 40000000 in
theorem rm8d (l : Launch) (Z : State) (a0 : Array Value) (hw : ∀ d ∈ tables_1, d.before a0 Z = true) (ws : List Jvm.Cond) (r : Addr) (p1 : Int32) (tk : Addr) (sz : Int32) (ls : Int32) (fi : Int32) (kt : ClassId) (dd : Addr) (h0 : Heap) (n0 : Nat) (Z0 : n0 ≤ h0.size) (E1 : Exa Z h0 r oR) (F0 : Fld Z h0 r oR "_tasks" "[Lcom/example/portunus/portunus/policy/WaitingTask;" (.ref tk)) (F1 : Fld Z h0 r oR "_mayBeLostAfterUs" "[D" (.ref dd)) (F2 : Fld Z h0 r oR "_size" "I" (.int sz)) (F3 : Fld Z h0 r oR "_lostSlots" "I" (.int ls)) (F4 : Fld Z h0 r oR "_first" "I" (.int fi)) (V1 : Arv Z h0 tk kt (.object oW) (8 : Int32) [] .null) (g1 : n0 ≤ r) (g2 : n0 ≤ tk) (n1 : r ≠ tk) (D1 : own_da Z h0 dd) (g3 : n0 ≤ dd) (n2 : r ≠ dd) (n3 : tk ≠ dd) (hk : p1 = (0 : Int32) ∨ p1 = (1 : Int32) ∨ p1 = (2 : Int32)) :
    MetFree l (⟨oL, "doMarks", "(Lcom/example/portunus/portunus/policy/Run;I)V"⟩ : MethodName) (head1 (Jvm.Cond.code (⟨oL, "doMarks", "(Lcom/example/portunus/portunus/policy/Run;I)V"⟩ : MethodName) method_3_code 2 none :: ws) ({ frames := 1, cells := 0, slots := 0, locals := 12 } : Room)) (fun a U => a = #[(.ref r), (.int p1)] ∧ Z.Warmed39 U.vm ∧ U.heap = h0) (fun _ _ _ _ _ => True) (fun _ U o U' => ∃ v L, o = .returned v ∧ Q8d Z r p1 tk sz ls fi kt dd h0 n0 v U'.heap L ∧ FrameEnd U o U' L ({ frames := 1, cells := 0, slots := 0, locals := 12 } : Room).cells ({ frames := 1, cells := 0, slots := 0, locals := 12 } : Room).slots) := by
  refine MetFree.of_bodySF (plainFor_of_name pn3) hisR ?_
  intro p e s m args below meth c s₁ Bd hml0 hP hK
  obtain ⟨rfl, hZ, hh⟩ := hP
  have hx := Bd.exec
  have hby := Bd.bytes
  have hml : c.maxLocals = 2 := hml0
  have hown : s.vm.findClass oL = some m.cls := findClass_of_methodNamed Bd.named
  have hnm := (name_of_methodNamed Bd.named Bd.method).1
  have X0 : Stand p l e ({ frames := 1, cells := 0, slots := 0, locals := 12 } : Room) s m #[(.ref r), (.int p1)] below meth c s₁ [] 0 0 := Stand.of_body Bd
  have e0 : s₁.heap = h0 := by rw [← hh, Bd.state]; rfl
  have N0 := Fr.nil n0
  have pre0 : ∀ tZ, Steps p.tables e below (s₁.setTop (mkF m 0 #[.val (.ref r), .val (.int p1)] [])) tZ → Steps p.tables e below (s₁.setTop (entryFrame m #[(.ref r), (.int p1)] 2)) tZ := fun tZ kZ => castTop (ef8d m r p1) kZ
  have pre1 : ∀ tZ, Steps p.tables e below (s₁.setTop (mkF m 2 #[.val (.ref r), .val (.int p1)] [(.int (1 : Int32)), (.int p1)])) tZ → Steps p.tables e below (s₁.setTop (entryFrame m #[(.ref r), (.int p1)] 2)) tZ := fun tZ kZ => pre0 tZ (by
    show Steps p.tables e below (s₁.setTop (mkF m 0 #[.val (.ref r), .val (.int p1)] [])) _
    refine XS.iloadN X0.here hx rfl (hb hby d8_0) rfl  ?_
    show Steps p.tables e below (s₁.setTop (mkF m 1 #[.val (.ref r), .val (.int p1)] [(.int p1)])) _
    refine XS.iconst X0.here hx rfl (hb hby d8_1) ?_
    exact kZ)
  by_cases hc2 : p1 < (1 : Int32)
  ·  -- yes
    obtain ⟨fsZ, hrZ, hrun, hended, hW, hsame⟩ := X0.leave (v := none) (fun _ => rfl)
    have q3 : Fld Z h0 r oR "_lostSlots" "I" (.int (ls + p1)) := by rw [show (ls + p1) = ls from (by first | (rw [(own_k0 hk hc2)]; done) | (rw [(own_k0 hk hc2)]; simp only [own_pl, own_ps, Int32.add_zero, Int32.sub_zero, own_two, own_twos]))]; exact F3
    refine ⟨_, _, pre1 _ ?_, hrun, hended, _, _, rfl, ?_, ⟨_, rfl⟩, hW, hsame.mono (by decide) (by decide)⟩
    · show Steps p.tables e below (s₁.setTop (mkF m 2 #[.val (.ref r), .val (.int p1)] [(.int (1 : Int32)), (.int p1)])) _
      refine XS.icmpYes X0.here hx rfl (pc0 := 2) (pc' := 9) rfl (hb hby d8_2) rfl (tlt hc2).1 (by decide) (by decide) ?_
      show Steps p.tables e below (s₁.setTop (mkF m 9 #[.val (.ref r), .val (.int p1)] [])) _
      refine XS.iloadN X0.here hx rfl (hb hby d8_9) rfl  ?_
      show Steps p.tables e below (s₁.setTop (mkF m 10 #[.val (.ref r), .val (.int p1)] [(.int p1)])) _
      refine XS.iconst X0.here hx rfl (hb hby d8_10) ?_
      show Steps p.tables e below (s₁.setTop (mkF m 11 #[.val (.ref r), .val (.int p1)] [(.int (2 : Int32)), (.int p1)])) _
      refine XS.icmpYes X0.here hx rfl (pc0 := 11) (pc' := 18) rfl (hb hby d8_11) rfl (tlt (own_lt12 hc2)).1 (by decide) (by decide) ?_
      show Steps p.tables e below (s₁.setTop (mkF m 18 #[.val (.ref r), .val (.int p1)] [])) _
      exact X0.returnOut hx Bd.returns (hb hby d8_18) hrZ
    · show Q8d Z r p1 tk sz ls fi kt dd h0 n0 _ s₁.heap _
      rw [e0]
      exact ⟨rfl, N0, (Keep.refl h0 [r, tk, dd]), E1, F0, F1, F2, q3, F4, V1, D1⟩
  ·  -- no
    obtain ⟨cq4, kq4, q4a, q4b, q4c⟩ := isOf hZ e0 E1
    obtain ⟨_, _, ⟨T4, L4, k4, n4⟩, -, X4, ⟨Lc4, hQ4, l4, y4, z4⟩, st4⟩ := X0.virtualBack hx (y := (⟨oR, "markFirstOtherLost", "()V"⟩ : MethodName)) (z := (⟨oR, "markFirstOtherLost", "()V"⟩ : MethodName)) hown (mvT hZ (ow hw 49 rfl)) (mvT hZ (ow hw 50 rfl)) (notFace_of_selects (args := #[]) (mvT hZ (ow hw 52 rfl))) (mvT hZ (ow hw 52 rfl)) (mvT hZ (ow hw 51 rfl)) (by decide) (backOf (W := 0) (rm9d l Z a0 hw [] r tk sz ls fi kt dd h0 n0 Z0 E1 F0 F1 F2 F3 F4 V1 g1 g2 n1 D1 g3 n2 n3) hZ (ow hw 53 rfl) (ow hw 7 rfl) (by decide) (by decide)) q4a q4c (g := (mkF m 6 #[.val (.ref r), .val (.int p1)] [(.ref r)])) rfl (by rw [hml]; rfl) (Steps.refl _) (argsL := []) (rest := []) (lenOf pd4 rfl) rfl (by show 2 * 0 + _ ≤ _; exact Nat.le_of_eq rfl) (hb hby d8_6) (fun _ _ => ⟨rfl, e0, (by decide : 0 + 0 ≤ _), (by decide : 0 + 0 ≤ _)⟩)
    dsimp only [Pt.U, Pt.locs, Pt.cells, Pt.slots] at X4 l4 y4 z4 st4 hQ4
    subst l4 y4 z4
    obtain ⟨rfl, N4q, K4, f4_0, f4_1, f4_2, f4_3, f4_4, f4_5, f4_6, f4_7⟩ := hQ4
    have N4 := Fr.app N0 N4q
    have Z5 : n0 ≤ T4.heap.size := Nat.le_trans Z0 K4.1
    have K6 : Keep h0 T4.heap [r, tk, dd] := (Keep.refl h0 [r, tk, dd]).trans K4 (allS (P := fun x => x ∈ _ ∨ _) (Or.inl (List.mem_of_getElem? (i := 0) rfl)) (allS (P := fun x => x ∈ _ ∨ _) (Or.inl (List.mem_of_getElem? (i := 1) rfl)) (allS (P := fun x => x ∈ _ ∨ _) (Or.inl (List.mem_of_getElem? (i := 2) rfl)) all0)))
    have pre7 : ∀ tZ, Steps p.tables e below (T4.setTop (mkF m 11 #[.val (.ref r), .val (.int p1)] [(.int (2 : Int32)), (.int p1)])) tZ → Steps p.tables e below (s₁.setTop (entryFrame m #[(.ref r), (.int p1)] 2)) tZ := fun tZ kZ => pre1 tZ (by
      show Steps p.tables e below (s₁.setTop (mkF m 2 #[.val (.ref r), .val (.int p1)] [(.int (1 : Int32)), (.int p1)])) _
      refine XS.icmpNo X0.here hx rfl (hb hby d8_2) rfl (flt hc2).1 ?_
      show Steps p.tables e below (s₁.setTop (mkF m 5 #[.val (.ref r), .val (.int p1)] [])) _
      refine XS.aloadN X0.here hx rfl (hb hby d8_5) rfl rfl ?_
      show Steps p.tables e below (s₁.setTop (mkF m 6 #[.val (.ref r), .val (.int p1)] [(.ref r)])) _
      refine st4.trans ?_
      show Steps p.tables e below (T4.setTop (mkF m 9 #[.val (.ref r), .val (.int p1)] [])) _
      refine XS.iloadN X4.here hx rfl (hb hby d8_9) rfl  ?_
      show Steps p.tables e below (T4.setTop (mkF m 10 #[.val (.ref r), .val (.int p1)] [(.int p1)])) _
      refine XS.iconst X4.here hx rfl (hb hby d8_10) ?_
      exact kZ)
    by_cases hc8 : p1 < (2 : Int32)
    ·  -- yes
      obtain ⟨fsZ, hrZ, hrun, hended, hW, hsame⟩ := X4.leave (v := none) (fun _ => rfl)
      have q9 : Fld Z T4.heap r oR "_lostSlots" "I" (.int (ls + p1)) := by rw [show (ls + p1) = (ls + (1 : Int32)) from (by first | (rw [(own_k1 hk hc2 hc8)]; done) | (rw [(own_k1 hk hc2 hc8)]; simp only [own_pl, own_ps, Int32.add_zero, Int32.sub_zero, own_two, own_twos]))]; exact f4_4
      refine ⟨_, _, pre7 _ ?_, hrun, hended, _, _, rfl, ?_, ⟨_, rfl⟩, hW, hsame.mono (by decide) (by decide)⟩
      · show Steps p.tables e below (T4.setTop (mkF m 11 #[.val (.ref r), .val (.int p1)] [(.int (2 : Int32)), (.int p1)])) _
        refine XS.icmpYes X4.here hx rfl (pc0 := 11) (pc' := 18) rfl (hb hby d8_11) rfl (tlt hc8).1 (by decide) (by decide) ?_
        show Steps p.tables e below (T4.setTop (mkF m 18 #[.val (.ref r), .val (.int p1)] [])) _
        exact X4.returnOut hx Bd.returns (hb hby d8_18) hrZ
      · show Q8d Z r p1 tk sz ls fi kt dd h0 n0 _ T4.heap _
        exact ⟨rfl, N4, K6, f4_0, f4_1, f4_2, f4_3, q9, f4_5, f4_6, f4_7⟩
    ·  -- no
      obtain ⟨cq10, kq10, q10a, q10b, q10c⟩ := isOf hZ rfl f4_0
      obtain ⟨_, _, ⟨T10, L10, k10, n10⟩, -, X10, ⟨Lc10, hQ10, l10, y10, z10⟩, st10⟩ := X4.virtualBack hx (y := (⟨oR, "markFirstOtherLost", "()V"⟩ : MethodName)) (z := (⟨oR, "markFirstOtherLost", "()V"⟩ : MethodName)) hown (mvT hZ (ow hw 49 rfl)) (mvT hZ (ow hw 50 rfl)) (notFace_of_selects (args := #[]) (mvT hZ (ow hw 52 rfl))) (mvT hZ (ow hw 52 rfl)) (mvT hZ (ow hw 51 rfl)) (by decide) (backOf (W := 0) (rm9d l Z a0 hw [] r tk sz (ls + (1 : Int32)) fi kt dd T4.heap n0 Z5 f4_0 f4_1 f4_2 f4_3 f4_4 f4_5 f4_6 g1 g2 n1 f4_7 g3 n2 n3) hZ (ow hw 53 rfl) (ow hw 7 rfl) (by decide) (by decide)) q10a q10c (g := (mkF m 15 #[.val (.ref r), .val (.int p1)] [(.ref r)])) rfl (by rw [hml]; rfl) (Steps.refl _) (argsL := []) (rest := []) (lenOf pd4 rfl) rfl (by show 2 * 0 + _ ≤ _; exact Nat.le_of_eq rfl) (hb hby d8_15) (fun _ _ => ⟨rfl, rfl, (by decide : 0 + 0 ≤ _), (by decide : 0 + 0 ≤ _)⟩)
      dsimp only [Pt.U, Pt.locs, Pt.cells, Pt.slots] at X10 l10 y10 z10 st10 hQ10
      subst l10 y10 z10
      obtain ⟨rfl, N10q, K10, f10_0, f10_1, f10_2, f10_3, f10_4, f10_5, f10_6, f10_7⟩ := hQ10
      have N10 := Fr.app N4 N10q
      have Z11 : n0 ≤ T10.heap.size := Nat.le_trans Z5 K10.1
      have K12 : Keep h0 T10.heap [r, tk, dd] := K6.trans K10 (allS (P := fun x => x ∈ _ ∨ _) (Or.inl (List.mem_of_getElem? (i := 0) rfl)) (allS (P := fun x => x ∈ _ ∨ _) (Or.inl (List.mem_of_getElem? (i := 1) rfl)) (allS (P := fun x => x ∈ _ ∨ _) (Or.inl (List.mem_of_getElem? (i := 2) rfl)) all0)))
      obtain ⟨fsZ, hrZ, hrun, hended, hW, hsame⟩ := X10.leave (v := none) (fun _ => rfl)
      have q13 : Fld Z T10.heap r oR "_lostSlots" "I" (.int (ls + p1)) := by rw [show (ls + p1) = ((ls + (1 : Int32)) + (1 : Int32)) from (by first | (rw [(own_k2 hk hc2 hc8)]; done) | (rw [(own_k2 hk hc2 hc8)]; simp only [own_pl, own_ps, Int32.add_zero, Int32.sub_zero, own_two, own_twos]))]; exact f10_4
      refine ⟨_, _, pre7 _ ?_, hrun, hended, _, _, rfl, ?_, ⟨_, rfl⟩, hW, hsame.mono (by decide) (by decide)⟩
      · show Steps p.tables e below (T4.setTop (mkF m 11 #[.val (.ref r), .val (.int p1)] [(.int (2 : Int32)), (.int p1)])) _
        refine XS.icmpNo X4.here hx rfl (hb hby d8_11) rfl (flt hc8).1 ?_
        show Steps p.tables e below (T4.setTop (mkF m 14 #[.val (.ref r), .val (.int p1)] [])) _
        refine XS.aloadN X4.here hx rfl (hb hby d8_14) rfl rfl ?_
        show Steps p.tables e below (T4.setTop (mkF m 15 #[.val (.ref r), .val (.int p1)] [(.ref r)])) _
        refine st10.trans ?_
        show Steps p.tables e below (T10.setTop (mkF m 18 #[.val (.ref r), .val (.int p1)] [])) _
        exact X10.returnOut hx Bd.returns (hb hby d8_18) hrZ
      · show Q8d Z r p1 tk sz ls fi kt dd h0 n0 _ T10.heap _
        exact ⟨rfl, N10, K12, f10_0, f10_1, f10_2, f10_3, q13, f10_5, f10_6, f10_7⟩
theorem ef10d (m : MethodId) (r : Addr) (p1 : Int32) : entryFrame m #[(.ref r), (.int p1)] 2 = mkF m 0 #[.val (.ref r), .val (.int p1)] [] := by first | (simp [entryFrame, mkF, argsToLocals, Value.category]; done) | rfl
def Q10d (Z : State) (r : Addr) (p1 : Int32) (tk : Addr) (sz : Int32) (ls : Int32) (fi : Int32) (kt : ClassId) (dd : Addr) (h0 : Heap) (n0 : Nat) (v : Option Value) (h : Heap) (L : List Loc) : Prop := ∃ (fn : Int32), v = none ∧ Fr n0 L ∧ Keep h0 h [r, tk, dd] ∧ Exa Z h r oR ∧ Fld Z h r oR "_tasks" "[Lcom/example/portunus/portunus/policy/WaitingTask;" (.ref tk) ∧ Fld Z h r oR "_mayBeLostAfterUs" "[D" (.ref dd) ∧ Fld Z h r oR "_size" "I" (.int (own_ps ls sz p1)) ∧ Fld Z h r oR "_lostSlots" "I" (.int (own_pl ls p1)) ∧ Fld Z h r oR "_first" "I" (.int fn) ∧ Arv Z h tk kt (.object oW) (8 : Int32) [] .null ∧ own_da Z h dd
set_option maxRecDepth 65536 in
set_option maxHeartbeats 40000000 in
theorem rm10d (l : Launch) (Z : State) (a0 : Array Value) (hw : ∀ d ∈ tables_1, d.before a0 Z = true) (ws : List Jvm.Cond) (r : Addr) (p1 : Int32) (tk : Addr) (sz : Int32) (ls : Int32) (fi : Int32) (kt : ClassId) (dd : Addr) (h0 : Heap) (n0 : Nat) (Z0 : n0 ≤ h0.size) (E1 : Exa Z h0 r oR) (F0 : Fld Z h0 r oR "_tasks" "[Lcom/example/portunus/portunus/policy/WaitingTask;" (.ref tk)) (F1 : Fld Z h0 r oR "_mayBeLostAfterUs" "[D" (.ref dd)) (F2 : Fld Z h0 r oR "_size" "I" (.int sz)) (F3 : Fld Z h0 r oR "_lostSlots" "I" (.int ls)) (F4 : Fld Z h0 r oR "_first" "I" (.int fi)) (V1 : Arv Z h0 tk kt (.object oW) (8 : Int32) [] .null) (g1 : n0 ≤ r) (g2 : n0 ≤ tk) (n1 : r ≠ tk) (D1 : own_da Z h0 dd) (g3 : n0 ≤ dd) (n2 : r ≠ dd) (n3 : tk ≠ dd) (hk : p1 = (0 : Int32) ∨ p1 = (1 : Int32) ∨ p1 = (2 : Int32)) (hr1 : ¬ ((ls + (1 : Int32)) = (0 : Int32))) :
    MetFree l (⟨oL, "doPolls", "(Lcom/example/portunus/portunus/policy/Run;I)V"⟩ : MethodName) (head1 (Jvm.Cond.code (⟨oL, "doPolls", "(Lcom/example/portunus/portunus/policy/Run;I)V"⟩ : MethodName) method_4_code 2 none :: ws) ({ frames := 2, cells := 0, slots := 0, locals := 28 } : Room)) (fun a U => a = #[(.ref r), (.int p1)] ∧ Z.Warmed39 U.vm ∧ U.heap = h0) (fun _ _ _ _ _ => True) (fun _ U o U' => ∃ v L, o = .returned v ∧ Q10d Z r p1 tk sz ls fi kt dd h0 n0 v U'.heap L ∧ FrameEnd U o U' L ({ frames := 2, cells := 0, slots := 0, locals := 28 } : Room).cells ({ frames := 2, cells := 0, slots := 0, locals := 28 } : Room).slots) := by
  refine MetFree.of_bodySF (plainFor_of_name pn3) hisR ?_
  intro p e s m args below meth c s₁ Bd hml0 hP hK
  obtain ⟨rfl, hZ, hh⟩ := hP
  have hx := Bd.exec
  have hby := Bd.bytes
  have hml : c.maxLocals = 2 := hml0
  have hown : s.vm.findClass oL = some m.cls := findClass_of_methodNamed Bd.named
  have hnm := (name_of_methodNamed Bd.named Bd.method).1
  have X0 : Stand p l e ({ frames := 2, cells := 0, slots := 0, locals := 28 } : Room) s m #[(.ref r), (.int p1)] below meth c s₁ [] 0 0 := Stand.of_body Bd
  have e0 : s₁.heap = h0 := by rw [← hh, Bd.state]; rfl
  have N0 := Fr.nil n0
  have pre0 : ∀ tZ, Steps p.tables e below (s₁.setTop (mkF m 0 #[.val (.ref r), .val (.int p1)] [])) tZ → Steps p.tables e below (s₁.setTop (entryFrame m #[(.ref r), (.int p1)] 2)) tZ := fun tZ kZ => castTop (ef10d m r p1) kZ
  by_cases hz : ls = (0 : Int32)
  ·  -- True
    have pre1 : ∀ tZ, Steps p.tables e below (s₁.setTop (mkF m 2 #[.val (.ref r), .val (.int p1)] [(.int (1 : Int32)), (.int p1)])) tZ → Steps p.tables e below (s₁.setTop (entryFrame m #[(.ref r), (.int p1)] 2)) tZ := fun tZ kZ => pre0 tZ (by
      show Steps p.tables e below (s₁.setTop (mkF m 0 #[.val (.ref r), .val (.int p1)] [])) _
      refine XS.iloadN X0.here hx rfl (hb hby d10_0) rfl  ?_
      show Steps p.tables e below (s₁.setTop (mkF m 1 #[.val (.ref r), .val (.int p1)] [(.int p1)])) _
      refine XS.iconst X0.here hx rfl (hb hby d10_1) ?_
      exact kZ)
    by_cases hc2 : p1 < (1 : Int32)
    ·  -- yes
      obtain ⟨fsZ, hrZ, hrun, hended, hW, hsame⟩ := X0.leave (v := none) (fun _ => rfl)
      have q3 : Fld Z h0 r oR "_size" "I" (.int (own_ps ls sz p1)) := by rw [show (own_ps ls sz p1) = sz from (by first | (rw [(own_k0 hk hc2)]; done) | (rw [(own_k0 hk hc2)]; simp only [own_pl, own_ps, Int32.add_zero, Int32.sub_zero, own_two, own_twos, if_pos hz]))]; exact F2
      have q4 : Fld Z h0 r oR "_lostSlots" "I" (.int (own_pl ls p1)) := by rw [show (own_pl ls p1) = ls from (by first | (rw [(own_k0 hk hc2)]; done) | (rw [(own_k0 hk hc2)]; simp only [own_pl, own_ps, Int32.add_zero, Int32.sub_zero, own_two, own_twos, if_pos hz]))]; exact F3
      refine ⟨_, _, pre1 _ ?_, hrun, hended, _, _, rfl, ?_, ⟨_, rfl⟩, hW, hsame.mono (by decide) (by decide)⟩
      · show Steps p.tables e below (s₁.setTop (mkF m 2 #[.val (.ref r), .val (.int p1)] [(.int (1 : Int32)), (.int p1)])) _
        refine XS.icmpYes X0.here hx rfl (pc0 := 2) (pc' := 10) rfl (hb hby d10_2) rfl (tlt hc2).1 (by decide) (by decide) ?_
        show Steps p.tables e below (s₁.setTop (mkF m 10 #[.val (.ref r), .val (.int p1)] [])) _
        refine XS.iloadN X0.here hx rfl (hb hby d10_10) rfl  ?_
        show Steps p.tables e below (s₁.setTop (mkF m 11 #[.val (.ref r), .val (.int p1)] [(.int p1)])) _
        refine XS.iconst X0.here hx rfl (hb hby d10_11) ?_
        show Steps p.tables e below (s₁.setTop (mkF m 12 #[.val (.ref r), .val (.int p1)] [(.int (2 : Int32)), (.int p1)])) _
        refine XS.icmpYes X0.here hx rfl (pc0 := 12) (pc' := 20) rfl (hb hby d10_12) rfl (tlt (own_lt12 hc2)).1 (by decide) (by decide) ?_
        show Steps p.tables e below (s₁.setTop (mkF m 20 #[.val (.ref r), .val (.int p1)] [])) _
        exact X0.returnOut hx Bd.returns (hb hby d10_20) hrZ
      · show Q10d Z r p1 tk sz ls fi kt dd h0 n0 _ s₁.heap _
        rw [e0]
        exact ⟨fi, rfl, N0, (Keep.refl h0 [r, tk, dd]), E1, F0, F1, q3, q4, F4, V1, D1⟩
    ·  -- no
      obtain ⟨cq5, kq5, q5a, q5b, q5c⟩ := isOf hZ e0 E1
      obtain ⟨_, _, ⟨T5, L5, k5, n5⟩, -, X5, ⟨Lc5, hQ5, l5, y5, z5⟩, st5⟩ := X0.virtualBack hx (y := (⟨oR, "pollFirstOther", "()Lcom/example/portunus/portunus/policy/WaitingTask;"⟩ : MethodName)) (z := (⟨oR, "pollFirstOther", "()Lcom/example/portunus/portunus/policy/WaitingTask;"⟩ : MethodName)) hown (mvT hZ (ow hw 57 rfl)) (mvT hZ (ow hw 58 rfl)) (notFace_of_selects (args := #[]) (mvT hZ (ow hw 60 rfl))) (mvT hZ (ow hw 60 rfl)) (mvT hZ (ow hw 59 rfl)) (by decide) (backOf (W := 0) (rm11zd l Z a0 hw [] r tk sz ls fi kt dd h0 n0 Z0 E1 F0 F1 F2 F3 F4 V1 g1 g2 n1 D1 g3 n2 n3 hz) hZ (ow hw 61 rfl) (ow hw 7 rfl) (by decide) (by decide)) q5a q5c (g := (mkF m 6 #[.val (.ref r), .val (.int p1)] [(.ref r)])) rfl (by rw [hml]; rfl) (Steps.refl _) (argsL := []) (rest := []) (lenOf pd5 rfl) rfl (by show 2 * 0 + _ ≤ _; exact Nat.le_of_eq rfl) (hb hby d10_6) (fun _ _ => ⟨rfl, e0, (by decide : 0 + 0 ≤ _), (by decide : 0 + 0 ≤ _)⟩)
      dsimp only [Pt.U, Pt.locs, Pt.cells, Pt.slots] at X5 l5 y5 z5 st5 hQ5
      subst l5 y5 z5
      obtain ⟨fn_6, rfl, N5q, K5, f5_0, f5_1, f5_2, f5_3, f5_4, f5_5, f5_6, f5_7⟩ := hQ5
      have N5 := Fr.app N0 N5q
      have Z7 : n0 ≤ T5.heap.size := Nat.le_trans Z0 K5.1
      have K8 : Keep h0 T5.heap [r, tk, dd] := (Keep.refl h0 [r, tk, dd]).trans K5 (allS (P := fun x => x ∈ _ ∨ _) (Or.inl (List.mem_of_getElem? (i := 0) rfl)) (allS (P := fun x => x ∈ _ ∨ _) (Or.inl (List.mem_of_getElem? (i := 1) rfl)) (allS (P := fun x => x ∈ _ ∨ _) (Or.inl (List.mem_of_getElem? (i := 2) rfl)) all0)))
      have pre9 : ∀ tZ, Steps p.tables e below (T5.setTop (mkF m 12 #[.val (.ref r), .val (.int p1)] [(.int (2 : Int32)), (.int p1)])) tZ → Steps p.tables e below (s₁.setTop (entryFrame m #[(.ref r), (.int p1)] 2)) tZ := fun tZ kZ => pre1 tZ (by
        show Steps p.tables e below (s₁.setTop (mkF m 2 #[.val (.ref r), .val (.int p1)] [(.int (1 : Int32)), (.int p1)])) _
        refine XS.icmpNo X0.here hx rfl (hb hby d10_2) rfl (flt hc2).1 ?_
        show Steps p.tables e below (s₁.setTop (mkF m 5 #[.val (.ref r), .val (.int p1)] [])) _
        refine XS.aloadN X0.here hx rfl (hb hby d10_5) rfl rfl ?_
        show Steps p.tables e below (s₁.setTop (mkF m 6 #[.val (.ref r), .val (.int p1)] [(.ref r)])) _
        refine st5.trans ?_
        show Steps p.tables e below (T5.setTop (mkF m 9 #[.val (.ref r), .val (.int p1)] [.null])) _
        refine XS.pop X5.here hx rfl (hb hby d10_9) rfl rfl ?_
        show Steps p.tables e below (T5.setTop (mkF m 10 #[.val (.ref r), .val (.int p1)] [])) _
        refine XS.iloadN X5.here hx rfl (hb hby d10_10) rfl  ?_
        show Steps p.tables e below (T5.setTop (mkF m 11 #[.val (.ref r), .val (.int p1)] [(.int p1)])) _
        refine XS.iconst X5.here hx rfl (hb hby d10_11) ?_
        exact kZ)
      by_cases hc10 : p1 < (2 : Int32)
      ·  -- yes
        obtain ⟨fsZ, hrZ, hrun, hended, hW, hsame⟩ := X5.leave (v := none) (fun _ => rfl)
        have q11 : Fld Z T5.heap r oR "_size" "I" (.int (own_ps ls sz p1)) := by rw [show (own_ps ls sz p1) = (sz - (1 : Int32)) from (by first | (rw [(own_k1 hk hc2 hc10)]; done) | (rw [(own_k1 hk hc2 hc10)]; simp only [own_pl, own_ps, Int32.add_zero, Int32.sub_zero, own_two, own_twos, if_pos hz]))]; exact f5_3
        have q12 : Fld Z T5.heap r oR "_lostSlots" "I" (.int (own_pl ls p1)) := by rw [show (own_pl ls p1) = ls from (by first | (rw [(own_k1 hk hc2 hc10)]; done) | (rw [(own_k1 hk hc2 hc10)]; simp only [own_pl, own_ps, Int32.add_zero, Int32.sub_zero, own_two, own_twos, if_pos hz]))]; exact f5_4
        refine ⟨_, _, pre9 _ ?_, hrun, hended, _, _, rfl, ?_, ⟨_, rfl⟩, hW, hsame.mono (by decide) (by decide)⟩
        · show Steps p.tables e below (T5.setTop (mkF m 12 #[.val (.ref r), .val (.int p1)] [(.int (2 : Int32)), (.int p1)])) _
          refine XS.icmpYes X5.here hx rfl (pc0 := 12) (pc' := 20) rfl (hb hby d10_12) rfl (tlt hc10).1 (by decide) (by decide) ?_
          show Steps p.tables e below (T5.setTop (mkF m 20 #[.val (.ref r), .val (.int p1)] [])) _
          exact X5.returnOut hx Bd.returns (hb hby d10_20) hrZ
        · show Q10d Z r p1 tk sz ls fi kt dd h0 n0 _ T5.heap _
          exact ⟨fn_6, rfl, N5, K8, f5_0, f5_1, f5_2, q11, q12, f5_5, f5_6, f5_7⟩
      ·  -- no
        obtain ⟨cq13, kq13, q13a, q13b, q13c⟩ := isOf hZ rfl f5_0
        obtain ⟨_, _, ⟨T13, L13, k13, n13⟩, -, X13, ⟨Lc13, hQ13, l13, y13, z13⟩, st13⟩ := X5.virtualBack hx (y := (⟨oR, "pollFirstOther", "()Lcom/example/portunus/portunus/policy/WaitingTask;"⟩ : MethodName)) (z := (⟨oR, "pollFirstOther", "()Lcom/example/portunus/portunus/policy/WaitingTask;"⟩ : MethodName)) hown (mvT hZ (ow hw 57 rfl)) (mvT hZ (ow hw 58 rfl)) (notFace_of_selects (args := #[]) (mvT hZ (ow hw 60 rfl))) (mvT hZ (ow hw 60 rfl)) (mvT hZ (ow hw 59 rfl)) (by decide) (backOf (W := 0) (rm11zd l Z a0 hw [] r tk (sz - (1 : Int32)) ls fn_6 kt dd T5.heap n0 Z7 f5_0 f5_1 f5_2 f5_3 f5_4 f5_5 f5_6 g1 g2 n1 f5_7 g3 n2 n3 hz) hZ (ow hw 61 rfl) (ow hw 7 rfl) (by decide) (by decide)) q13a q13c (g := (mkF m 16 #[.val (.ref r), .val (.int p1)] [(.ref r)])) rfl (by rw [hml]; rfl) (Steps.refl _) (argsL := []) (rest := []) (lenOf pd5 rfl) rfl (by show 2 * 0 + _ ≤ _; exact Nat.le_of_eq rfl) (hb hby d10_16) (fun _ _ => ⟨rfl, rfl, (by decide : 0 + 0 ≤ _), (by decide : 0 + 0 ≤ _)⟩)
        dsimp only [Pt.U, Pt.locs, Pt.cells, Pt.slots] at X13 l13 y13 z13 st13 hQ13
        subst l13 y13 z13
        obtain ⟨fn_14, rfl, N13q, K13, f13_0, f13_1, f13_2, f13_3, f13_4, f13_5, f13_6, f13_7⟩ := hQ13
        have N13 := Fr.app N5 N13q
        have Z15 : n0 ≤ T13.heap.size := Nat.le_trans Z7 K13.1
        have K16 : Keep h0 T13.heap [r, tk, dd] := K8.trans K13 (allS (P := fun x => x ∈ _ ∨ _) (Or.inl (List.mem_of_getElem? (i := 0) rfl)) (allS (P := fun x => x ∈ _ ∨ _) (Or.inl (List.mem_of_getElem? (i := 1) rfl)) (allS (P := fun x => x ∈ _ ∨ _) (Or.inl (List.mem_of_getElem? (i := 2) rfl)) all0)))
        obtain ⟨fsZ, hrZ, hrun, hended, hW, hsame⟩ := X13.leave (v := none) (fun _ => rfl)
        have q17 : Fld Z T13.heap r oR "_size" "I" (.int (own_ps ls sz p1)) := by rw [show (own_ps ls sz p1) = ((sz - (1 : Int32)) - (1 : Int32)) from (by first | (rw [(own_k2 hk hc2 hc10)]; done) | (rw [(own_k2 hk hc2 hc10)]; simp only [own_pl, own_ps, Int32.add_zero, Int32.sub_zero, own_two, own_twos, if_pos hz]))]; exact f13_3
        have q18 : Fld Z T13.heap r oR "_lostSlots" "I" (.int (own_pl ls p1)) := by rw [show (own_pl ls p1) = ls from (by first | (rw [(own_k2 hk hc2 hc10)]; done) | (rw [(own_k2 hk hc2 hc10)]; simp only [own_pl, own_ps, Int32.add_zero, Int32.sub_zero, own_two, own_twos, if_pos hz]))]; exact f13_4
        refine ⟨_, _, pre9 _ ?_, hrun, hended, _, _, rfl, ?_, ⟨_, rfl⟩, hW, hsame.mono (by decide) (by decide)⟩
        · show Steps p.tables e below (T5.setTop (mkF m 12 #[.val (.ref r), .val (.int p1)] [(.int (2 : Int32)), (.int p1)])) _
          refine XS.icmpNo X5.here hx rfl (hb hby d10_12) rfl (flt hc10).1 ?_
          show Steps p.tables e below (T5.setTop (mkF m 15 #[.val (.ref r), .val (.int p1)] [])) _
          refine XS.aloadN X5.here hx rfl (hb hby d10_15) rfl rfl ?_
          show Steps p.tables e below (T5.setTop (mkF m 16 #[.val (.ref r), .val (.int p1)] [(.ref r)])) _
          refine st13.trans ?_
          show Steps p.tables e below (T13.setTop (mkF m 19 #[.val (.ref r), .val (.int p1)] [.null])) _
          refine XS.pop X13.here hx rfl (hb hby d10_19) rfl rfl ?_
          show Steps p.tables e below (T13.setTop (mkF m 20 #[.val (.ref r), .val (.int p1)] [])) _
          exact X13.returnOut hx Bd.returns (hb hby d10_20) hrZ
        · show Q10d Z r p1 tk sz ls fi kt dd h0 n0 _ T13.heap _
          exact ⟨fn_14, rfl, N13, K16, f13_0, f13_1, f13_2, q17, q18, f13_5, f13_6, f13_7⟩
  ·  -- False
    have pre19 : ∀ tZ, Steps p.tables e below (s₁.setTop (mkF m 2 #[.val (.ref r), .val (.int p1)] [(.int (1 : Int32)), (.int p1)])) tZ → Steps p.tables e below (s₁.setTop (entryFrame m #[(.ref r), (.int p1)] 2)) tZ := fun tZ kZ => pre0 tZ (by
      show Steps p.tables e below (s₁.setTop (mkF m 0 #[.val (.ref r), .val (.int p1)] [])) _
      refine XS.iloadN X0.here hx rfl (hb hby d10_0) rfl  ?_
      show Steps p.tables e below (s₁.setTop (mkF m 1 #[.val (.ref r), .val (.int p1)] [(.int p1)])) _
      refine XS.iconst X0.here hx rfl (hb hby d10_1) ?_
      exact kZ)
    by_cases hc20 : p1 < (1 : Int32)
    ·  -- yes
      obtain ⟨fsZ, hrZ, hrun, hended, hW, hsame⟩ := X0.leave (v := none) (fun _ => rfl)
      have q21 : Fld Z h0 r oR "_size" "I" (.int (own_ps ls sz p1)) := by rw [show (own_ps ls sz p1) = sz from (by first | (rw [(own_k0 hk hc20)]; done) | (rw [(own_k0 hk hc20)]; simp only [own_pl, own_ps, Int32.add_zero, Int32.sub_zero, own_two, own_twos, if_neg hz]))]; exact F2
      have q22 : Fld Z h0 r oR "_lostSlots" "I" (.int (own_pl ls p1)) := by rw [show (own_pl ls p1) = ls from (by first | (rw [(own_k0 hk hc20)]; done) | (rw [(own_k0 hk hc20)]; simp only [own_pl, own_ps, Int32.add_zero, Int32.sub_zero, own_two, own_twos, if_neg hz]))]; exact F3
      refine ⟨_, _, pre19 _ ?_, hrun, hended, _, _, rfl, ?_, ⟨_, rfl⟩, hW, hsame.mono (by decide) (by decide)⟩
      · show Steps p.tables e below (s₁.setTop (mkF m 2 #[.val (.ref r), .val (.int p1)] [(.int (1 : Int32)), (.int p1)])) _
        refine XS.icmpYes X0.here hx rfl (pc0 := 2) (pc' := 10) rfl (hb hby d10_2) rfl (tlt hc20).1 (by decide) (by decide) ?_
        show Steps p.tables e below (s₁.setTop (mkF m 10 #[.val (.ref r), .val (.int p1)] [])) _
        refine XS.iloadN X0.here hx rfl (hb hby d10_10) rfl  ?_
        show Steps p.tables e below (s₁.setTop (mkF m 11 #[.val (.ref r), .val (.int p1)] [(.int p1)])) _
        refine XS.iconst X0.here hx rfl (hb hby d10_11) ?_
        show Steps p.tables e below (s₁.setTop (mkF m 12 #[.val (.ref r), .val (.int p1)] [(.int (2 : Int32)), (.int p1)])) _
        refine XS.icmpYes X0.here hx rfl (pc0 := 12) (pc' := 20) rfl (hb hby d10_12) rfl (tlt (own_lt12 hc20)).1 (by decide) (by decide) ?_
        show Steps p.tables e below (s₁.setTop (mkF m 20 #[.val (.ref r), .val (.int p1)] [])) _
        exact X0.returnOut hx Bd.returns (hb hby d10_20) hrZ
      · show Q10d Z r p1 tk sz ls fi kt dd h0 n0 _ s₁.heap _
        rw [e0]
        exact ⟨fi, rfl, N0, (Keep.refl h0 [r, tk, dd]), E1, F0, F1, q21, q22, F4, V1, D1⟩
    ·  -- no
      obtain ⟨cq23, kq23, q23a, q23b, q23c⟩ := isOf hZ e0 E1
      obtain ⟨_, _, ⟨T23, L23, k23, n23⟩, -, X23, ⟨Lc23, hQ23, l23, y23, z23⟩, st23⟩ := X0.virtualBack hx (y := (⟨oR, "pollFirstOther", "()Lcom/example/portunus/portunus/policy/WaitingTask;"⟩ : MethodName)) (z := (⟨oR, "pollFirstOther", "()Lcom/example/portunus/portunus/policy/WaitingTask;"⟩ : MethodName)) hown (mvT hZ (ow hw 57 rfl)) (mvT hZ (ow hw 58 rfl)) (notFace_of_selects (args := #[]) (mvT hZ (ow hw 60 rfl))) (mvT hZ (ow hw 60 rfl)) (mvT hZ (ow hw 59 rfl)) (by decide) (backOf (W := 0) (rm11nd l Z a0 hw [] r tk sz ls fi kt dd h0 n0 Z0 E1 F0 F1 F2 F3 F4 V1 g1 g2 n1 D1 g3 n2 n3 hz) hZ (ow hw 61 rfl) (ow hw 7 rfl) (by decide) (by decide)) q23a q23c (g := (mkF m 6 #[.val (.ref r), .val (.int p1)] [(.ref r)])) rfl (by rw [hml]; rfl) (Steps.refl _) (argsL := []) (rest := []) (lenOf pd5 rfl) rfl (by show 2 * 0 + _ ≤ _; exact Nat.le_of_eq rfl) (hb hby d10_6) (fun _ _ => ⟨rfl, e0, (by decide : 0 + 0 ≤ _), (by decide : 0 + 0 ≤ _)⟩)
      dsimp only [Pt.U, Pt.locs, Pt.cells, Pt.slots] at X23 l23 y23 z23 st23 hQ23
      subst l23 y23 z23
      obtain ⟨fn_24, rfl, N23q, K23, f23_0, f23_1, f23_2, f23_3, f23_4, f23_5, f23_6, f23_7⟩ := hQ23
      have N23 := Fr.app N0 N23q
      have Z25 : n0 ≤ T23.heap.size := Nat.le_trans Z0 K23.1
      have K26 : Keep h0 T23.heap [r, tk, dd] := (Keep.refl h0 [r, tk, dd]).trans K23 (allS (P := fun x => x ∈ _ ∨ _) (Or.inl (List.mem_of_getElem? (i := 0) rfl)) (allS (P := fun x => x ∈ _ ∨ _) (Or.inl (List.mem_of_getElem? (i := 1) rfl)) (allS (P := fun x => x ∈ _ ∨ _) (Or.inl (List.mem_of_getElem? (i := 2) rfl)) all0)))
      have pre27 : ∀ tZ, Steps p.tables e below (T23.setTop (mkF m 12 #[.val (.ref r), .val (.int p1)] [(.int (2 : Int32)), (.int p1)])) tZ → Steps p.tables e below (s₁.setTop (entryFrame m #[(.ref r), (.int p1)] 2)) tZ := fun tZ kZ => pre19 tZ (by
        show Steps p.tables e below (s₁.setTop (mkF m 2 #[.val (.ref r), .val (.int p1)] [(.int (1 : Int32)), (.int p1)])) _
        refine XS.icmpNo X0.here hx rfl (hb hby d10_2) rfl (flt hc20).1 ?_
        show Steps p.tables e below (s₁.setTop (mkF m 5 #[.val (.ref r), .val (.int p1)] [])) _
        refine XS.aloadN X0.here hx rfl (hb hby d10_5) rfl rfl ?_
        show Steps p.tables e below (s₁.setTop (mkF m 6 #[.val (.ref r), .val (.int p1)] [(.ref r)])) _
        refine st23.trans ?_
        show Steps p.tables e below (T23.setTop (mkF m 9 #[.val (.ref r), .val (.int p1)] [.null])) _
        refine XS.pop X23.here hx rfl (hb hby d10_9) rfl rfl ?_
        show Steps p.tables e below (T23.setTop (mkF m 10 #[.val (.ref r), .val (.int p1)] [])) _
        refine XS.iloadN X23.here hx rfl (hb hby d10_10) rfl  ?_
        show Steps p.tables e below (T23.setTop (mkF m 11 #[.val (.ref r), .val (.int p1)] [(.int p1)])) _
        refine XS.iconst X23.here hx rfl (hb hby d10_11) ?_
        exact kZ)
      by_cases hc28 : p1 < (2 : Int32)
      ·  -- yes
        obtain ⟨fsZ, hrZ, hrun, hended, hW, hsame⟩ := X23.leave (v := none) (fun _ => rfl)
        have q29 : Fld Z T23.heap r oR "_size" "I" (.int (own_ps ls sz p1)) := by rw [show (own_ps ls sz p1) = sz from (by first | (rw [(own_k1 hk hc20 hc28)]; done) | (rw [(own_k1 hk hc20 hc28)]; simp only [own_pl, own_ps, Int32.add_zero, Int32.sub_zero, own_two, own_twos, if_neg hz]))]; exact f23_3
        have q30 : Fld Z T23.heap r oR "_lostSlots" "I" (.int (own_pl ls p1)) := by rw [show (own_pl ls p1) = (ls + (1 : Int32)) from (by first | (rw [(own_k1 hk hc20 hc28)]; done) | (rw [(own_k1 hk hc20 hc28)]; simp only [own_pl, own_ps, Int32.add_zero, Int32.sub_zero, own_two, own_twos, if_neg hz]))]; exact f23_4
        refine ⟨_, _, pre27 _ ?_, hrun, hended, _, _, rfl, ?_, ⟨_, rfl⟩, hW, hsame.mono (by decide) (by decide)⟩
        · show Steps p.tables e below (T23.setTop (mkF m 12 #[.val (.ref r), .val (.int p1)] [(.int (2 : Int32)), (.int p1)])) _
          refine XS.icmpYes X23.here hx rfl (pc0 := 12) (pc' := 20) rfl (hb hby d10_12) rfl (tlt hc28).1 (by decide) (by decide) ?_
          show Steps p.tables e below (T23.setTop (mkF m 20 #[.val (.ref r), .val (.int p1)] [])) _
          exact X23.returnOut hx Bd.returns (hb hby d10_20) hrZ
        · show Q10d Z r p1 tk sz ls fi kt dd h0 n0 _ T23.heap _
          exact ⟨fn_24, rfl, N23, K26, f23_0, f23_1, f23_2, q29, q30, f23_5, f23_6, f23_7⟩
      ·  -- no
        obtain ⟨cq31, kq31, q31a, q31b, q31c⟩ := isOf hZ rfl f23_0
        obtain ⟨_, _, ⟨T31, L31, k31, n31⟩, -, X31, ⟨Lc31, hQ31, l31, y31, z31⟩, st31⟩ := X23.virtualBack hx (y := (⟨oR, "pollFirstOther", "()Lcom/example/portunus/portunus/policy/WaitingTask;"⟩ : MethodName)) (z := (⟨oR, "pollFirstOther", "()Lcom/example/portunus/portunus/policy/WaitingTask;"⟩ : MethodName)) hown (mvT hZ (ow hw 57 rfl)) (mvT hZ (ow hw 58 rfl)) (notFace_of_selects (args := #[]) (mvT hZ (ow hw 60 rfl))) (mvT hZ (ow hw 60 rfl)) (mvT hZ (ow hw 59 rfl)) (by decide) (backOf (W := 0) (rm11nd l Z a0 hw [] r tk sz (ls + (1 : Int32)) fn_24 kt dd T23.heap n0 Z25 f23_0 f23_1 f23_2 f23_3 f23_4 f23_5 f23_6 g1 g2 n1 f23_7 g3 n2 n3 hr1) hZ (ow hw 61 rfl) (ow hw 7 rfl) (by decide) (by decide)) q31a q31c (g := (mkF m 16 #[.val (.ref r), .val (.int p1)] [(.ref r)])) rfl (by rw [hml]; rfl) (Steps.refl _) (argsL := []) (rest := []) (lenOf pd5 rfl) rfl (by show 2 * 0 + _ ≤ _; exact Nat.le_of_eq rfl) (hb hby d10_16) (fun _ _ => ⟨rfl, rfl, (by decide : 0 + 0 ≤ _), (by decide : 0 + 0 ≤ _)⟩)
        dsimp only [Pt.U, Pt.locs, Pt.cells, Pt.slots] at X31 l31 y31 z31 st31 hQ31
        subst l31 y31 z31
        obtain ⟨fn_32, rfl, N31q, K31, f31_0, f31_1, f31_2, f31_3, f31_4, f31_5, f31_6, f31_7⟩ := hQ31
        have N31 := Fr.app N23 N31q
        have Z33 : n0 ≤ T31.heap.size := Nat.le_trans Z25 K31.1
        have K34 : Keep h0 T31.heap [r, tk, dd] := K26.trans K31 (allS (P := fun x => x ∈ _ ∨ _) (Or.inl (List.mem_of_getElem? (i := 0) rfl)) (allS (P := fun x => x ∈ _ ∨ _) (Or.inl (List.mem_of_getElem? (i := 1) rfl)) (allS (P := fun x => x ∈ _ ∨ _) (Or.inl (List.mem_of_getElem? (i := 2) rfl)) all0)))
        obtain ⟨fsZ, hrZ, hrun, hended, hW, hsame⟩ := X31.leave (v := none) (fun _ => rfl)
        have q35 : Fld Z T31.heap r oR "_size" "I" (.int (own_ps ls sz p1)) := by rw [show (own_ps ls sz p1) = sz from (by first | (rw [(own_k2 hk hc20 hc28)]; done) | (rw [(own_k2 hk hc20 hc28)]; simp only [own_pl, own_ps, Int32.add_zero, Int32.sub_zero, own_two, own_twos, if_neg hz]))]; exact f31_3
        have q36 : Fld Z T31.heap r oR "_lostSlots" "I" (.int (own_pl ls p1)) := by rw [show (own_pl ls p1) = ((ls + (1 : Int32)) + (1 : Int32)) from (by first | (rw [(own_k2 hk hc20 hc28)]; done) | (rw [(own_k2 hk hc20 hc28)]; simp only [own_pl, own_ps, Int32.add_zero, Int32.sub_zero, own_two, own_twos, if_neg hz]))]; exact f31_4
        refine ⟨_, _, pre27 _ ?_, hrun, hended, _, _, rfl, ?_, ⟨_, rfl⟩, hW, hsame.mono (by decide) (by decide)⟩
        · show Steps p.tables e below (T23.setTop (mkF m 12 #[.val (.ref r), .val (.int p1)] [(.int (2 : Int32)), (.int p1)])) _
          refine XS.icmpNo X23.here hx rfl (hb hby d10_12) rfl (flt hc28).1 ?_
          show Steps p.tables e below (T23.setTop (mkF m 15 #[.val (.ref r), .val (.int p1)] [])) _
          refine XS.aloadN X23.here hx rfl (hb hby d10_15) rfl rfl ?_
          show Steps p.tables e below (T23.setTop (mkF m 16 #[.val (.ref r), .val (.int p1)] [(.ref r)])) _
          refine st31.trans ?_
          show Steps p.tables e below (T31.setTop (mkF m 19 #[.val (.ref r), .val (.int p1)] [.null])) _
          refine XS.pop X31.here hx rfl (hb hby d10_19) rfl rfl ?_
          show Steps p.tables e below (T31.setTop (mkF m 20 #[.val (.ref r), .val (.int p1)] [])) _
          exact X31.returnOut hx Bd.returns (hb hby d10_20) hrZ
        · show Q10d Z r p1 tk sz ls fi kt dd h0 n0 _ T31.heap _
          exact ⟨fn_32, rfl, N31, K34, f31_0, f31_1, f31_2, q35, q36, f31_5, f31_6, f31_7⟩
theorem pd6 : parseMethodDescriptor "(II)I" = some ⟨[.int, .int], some .int⟩ := by decide +kernel
theorem pd7 : parseMethodDescriptor "(Z)V" = some ⟨[.boolean], none⟩ := by decide +kernel
theorem pd8 : parseMethodDescriptor "()Z" = some ⟨[], some .boolean⟩ := by decide +kernel
theorem pd9 : parseMethodDescriptor "(Lcom/example/portunus/portunus/policy/Run;I)V" = some ⟨[(.object oR), .int], none⟩ := by decide +kernel
theorem pd10 : parseMethodDescriptor "(Lcom/example/portunus/portunus/policy/WaitingTask;D)V" = some ⟨[(.object oW), .double], none⟩ := by decide +kernel
theorem ef0 (m : MethodId) (p0 : Int32) (p1 : Int32) (p2 : Int32) (p3 : Int32) : entryFrame m #[(.int p0), (.int p1), (.int p2), (.int p3)] maxLocals = mkF m 0 #[.val (.int p0), .val (.int p1), .val (.int p2), .val (.int p3), .unset, .unset, .unset, .unset, .unset, .unset, .unset, .unset] [] := by first | (simp [entryFrame, mkF, argsToLocals, Value.category, maxLocals]; done) | rfl
def Q0 (Z : State) (p0 : Int32) (p1 : Int32) (p2 : Int32) (p3 : Int32) (h0 : Heap) (n0 : Nat) (v : Option Value) (h : Heap) (L : List Loc) : Prop := v = some (.int (1 : Int32)) ∧ Fr n0 L
set_option maxRecDepth 65536 in
set_option maxHeartbeats 40000000 in
theorem rm0 (l : Launch) (Z : State) (a0 : Array Value) (hw : ∀ d ∈ tables_1, d.before a0 Z = true) (ws : List Jvm.Cond) (p0 : Int32) (p1 : Int32) (p2 : Int32) (p3 : Int32) (h0 : Heap) (n0 : Nat) (Z0 : n0 ≤ h0.size) :
    MetFree l x (head1 (Jvm.Cond.code x code maxLocals ret :: ws) room_1) (fun a U => a = #[(.int p0), (.int p1), (.int p2), (.int p3)] ∧ Z.Warmed39 U.vm ∧ U.heap = h0) (fun _ _ _ _ _ => True) (fun _ U o U' => ∃ v L, o = .returned v ∧ Q0 Z p0 p1 p2 p3 h0 n0 v U'.heap L ∧ FrameEnd U o U' L room_1.cells room_1.slots) := by
  refine MetFree.of_bodySF (plainFor_of_name pn3) hisR ?_
  intro p e s m args below meth c s₁ Bd hml0 hP hK
  obtain ⟨rfl, hZ, hh⟩ := hP
  have hx := Bd.exec
  have hby := Bd.bytes
  have hml : c.maxLocals = 12 := hml0
  have hown : s.vm.findClass oL = some m.cls := findClass_of_methodNamed Bd.named
  have hnm := (name_of_methodNamed Bd.named Bd.method).1
  have X0 : Stand p l e room_1 s m #[(.int p0), (.int p1), (.int p2), (.int p3)] below meth c s₁ [] 0 0 := Stand.of_body Bd
  have e0 : s₁.heap = h0 := by rw [← hh, Bd.state]; rfl
  have N0 := Fr.nil n0
  have pre0 : ∀ tZ, Steps p.tables e below (s₁.setTop (mkF m 0 #[.val (.int p0), .val (.int p1), .val (.int p2), .val (.int p3), .unset, .unset, .unset, .unset, .unset, .unset, .unset, .unset] [])) tZ → Steps p.tables e below (s₁.setTop (entryFrame m #[(.int p0), (.int p1), (.int p2), (.int p3)] maxLocals)) tZ := fun tZ kZ => castTop (ef0 m p0 p1 p2 p3) kZ
  have pre1 : ∀ tZ, Steps p.tables e below (s₁.setTop (mkF m 3 #[.val (.int p0), .val (.int p1), .val (.int p2), .val (.int p3), .unset, .unset, .unset, .unset, .unset, .unset, .unset, .unset] [(.int (p0 &&& (1 : Int32)))])) tZ → Steps p.tables e below (s₁.setTop (entryFrame m #[(.int p0), (.int p1), (.int p2), (.int p3)] maxLocals)) tZ := fun tZ kZ => pre0 tZ (by
    show Steps p.tables e below (s₁.setTop (mkF m 0 #[.val (.int p0), .val (.int p1), .val (.int p2), .val (.int p3), .unset, .unset, .unset, .unset, .unset, .unset, .unset, .unset] [])) _
    refine XS.iloadN X0.here hx rfl (hb hby at_0) rfl  ?_
    show Steps p.tables e below (s₁.setTop (mkF m 1 #[.val (.int p0), .val (.int p1), .val (.int p2), .val (.int p3), .unset, .unset, .unset, .unset, .unset, .unset, .unset, .unset] [(.int p0)])) _
    refine XS.iconst X0.here hx rfl (hb hby at_1) ?_
    show Steps p.tables e below (s₁.setTop (mkF m 2 #[.val (.int p0), .val (.int p1), .val (.int p2), .val (.int p3), .unset, .unset, .unset, .unset, .unset, .unset, .unset, .unset] [(.int (1 : Int32)), (.int p0)])) _
    refine XS.iand X0.here hx rfl (hb hby at_2) rfl ?_
    exact kZ)
  by_cases hc2 : (p0 &&& (1 : Int32)) = (0 : Int32)
  ·  -- yes
    have pre3 : ∀ tZ, Steps p.tables e below (s₁.setTop (mkF m 16 #[.val (.int p0), .val (.int p1), .val (.int p2), .val (.int p3), .val (.int (0 : Int32)), .unset, .unset, .unset, .unset, .unset, .unset, .unset] [(.int (p0 &&& (2 : Int32)))])) tZ → Steps p.tables e below (s₁.setTop (entryFrame m #[(.int p0), (.int p1), (.int p2), (.int p3)] maxLocals)) tZ := fun tZ kZ => pre1 tZ (by
      show Steps p.tables e below (s₁.setTop (mkF m 3 #[.val (.int p0), .val (.int p1), .val (.int p2), .val (.int p3), .unset, .unset, .unset, .unset, .unset, .unset, .unset, .unset] [(.int (p0 &&& (1 : Int32)))])) _
      refine XS.ifYes X0.here hx rfl (pc0 := 3) (pc' := 10) rfl (hb hby at_3) rfl ((if0 _ _).trans (teq hc2).1) (by decide) (by decide) ?_
      show Steps p.tables e below (s₁.setTop (mkF m 10 #[.val (.int p0), .val (.int p1), .val (.int p2), .val (.int p3), .unset, .unset, .unset, .unset, .unset, .unset, .unset, .unset] [])) _
      refine XS.iconst X0.here hx rfl (hb hby at_10) ?_
      show Steps p.tables e below (s₁.setTop (mkF m 11 #[.val (.int p0), .val (.int p1), .val (.int p2), .val (.int p3), .unset, .unset, .unset, .unset, .unset, .unset, .unset, .unset] [(.int (0 : Int32))])) _
      refine XS.istore X0.here hx rfl (hb hby at_11) rfl (l' := #[.val (.int p0), .val (.int p1), .val (.int p2), .val (.int p3), .val (.int (0 : Int32)), .unset, .unset, .unset, .unset, .unset, .unset, .unset]) rfl ?_
      show Steps p.tables e below (s₁.setTop (mkF m 13 #[.val (.int p0), .val (.int p1), .val (.int p2), .val (.int p3), .val (.int (0 : Int32)), .unset, .unset, .unset, .unset, .unset, .unset, .unset] [])) _
      refine XS.iloadN X0.here hx rfl (hb hby at_13) rfl  ?_
      show Steps p.tables e below (s₁.setTop (mkF m 14 #[.val (.int p0), .val (.int p1), .val (.int p2), .val (.int p3), .val (.int (0 : Int32)), .unset, .unset, .unset, .unset, .unset, .unset, .unset] [(.int p0)])) _
      refine XS.iconst X0.here hx rfl (hb hby at_14) ?_
      show Steps p.tables e below (s₁.setTop (mkF m 15 #[.val (.int p0), .val (.int p1), .val (.int p2), .val (.int p3), .val (.int (0 : Int32)), .unset, .unset, .unset, .unset, .unset, .unset, .unset] [(.int (2 : Int32)), (.int p0)])) _
      refine XS.iand X0.here hx rfl (hb hby at_15) rfl ?_
      exact kZ)
    have pre5 : ∀ tZ, Steps p.tables e below (s₁.setTop (mkF m 24 #[.val (.int p0), .val (.int p1), .val (.int p2), .val (.int p3), .val (.int (0 : Int32)), .unset, .unset, .unset, .unset, .unset, .unset, .unset] [(.int (own_b (¬ ((p0 &&& (2 : Int32)) = (0 : Int32)))))])) tZ → Steps p.tables e below (s₁.setTop (entryFrame m #[(.int p0), (.int p1), (.int p2), (.int p3)] maxLocals)) tZ := fun tZ kZ => pre3 tZ (by
      by_cases hc4 : (p0 &&& (2 : Int32)) = (0 : Int32)
      ·  -- yes
        show Steps p.tables e below (s₁.setTop (mkF m 16 #[.val (.int p0), .val (.int p1), .val (.int p2), .val (.int p3), .val (.int (0 : Int32)), .unset, .unset, .unset, .unset, .unset, .unset, .unset] [(.int (p0 &&& (2 : Int32)))])) _
        refine XS.ifYes X0.here hx rfl (pc0 := 16) (pc' := 23) rfl (hb hby at_16) rfl ((if0 _ _).trans (teq hc4).1) (by decide) (by decide) ?_
        show Steps p.tables e below (s₁.setTop (mkF m 23 #[.val (.int p0), .val (.int p1), .val (.int p2), .val (.int p3), .val (.int (0 : Int32)), .unset, .unset, .unset, .unset, .unset, .unset, .unset] [])) _
        refine XS.iconst X0.here hx rfl (hb hby at_23) ?_
        have ekZ : (own_b (¬ ((p0 &&& (2 : Int32)) = (0 : Int32)))) = (0 : Int32) := by first | (simp only [own_b, eq_true hc4, and_true, true_and, and_false, false_and, or_true, true_or, or_false, false_or, not_true_eq_false, not_false_eq_true, if_true, if_false, reduceIte]; done) | (simp [own_b, hc4]; done)
        rw [ekZ] at kZ
        exact kZ
      ·  -- no
        show Steps p.tables e below (s₁.setTop (mkF m 16 #[.val (.int p0), .val (.int p1), .val (.int p2), .val (.int p3), .val (.int (0 : Int32)), .unset, .unset, .unset, .unset, .unset, .unset, .unset] [(.int (p0 &&& (2 : Int32)))])) _
        refine XS.ifNo X0.here hx rfl (hb hby at_16) rfl ((if0 _ _).trans (feq hc4).1) ?_
        show Steps p.tables e below (s₁.setTop (mkF m 19 #[.val (.int p0), .val (.int p1), .val (.int p2), .val (.int p3), .val (.int (0 : Int32)), .unset, .unset, .unset, .unset, .unset, .unset, .unset] [])) _
        refine XS.iconst X0.here hx rfl (hb hby at_19) ?_
        show Steps p.tables e below (s₁.setTop (mkF m 20 #[.val (.int p0), .val (.int p1), .val (.int p2), .val (.int p3), .val (.int (0 : Int32)), .unset, .unset, .unset, .unset, .unset, .unset, .unset] [(.int (1 : Int32))])) _
        refine XS.goto X0.here hx rfl (pc0 := 20) (pc' := 24) rfl (hb hby at_20) (by decide) (by decide) ?_
        have ekZ : (own_b (¬ ((p0 &&& (2 : Int32)) = (0 : Int32)))) = (1 : Int32) := by first | (simp only [own_b, eq_false hc4, and_true, true_and, and_false, false_and, or_true, true_or, or_false, false_or, not_true_eq_false, not_false_eq_true, if_true, if_false, reduceIte]; done) | (simp [own_b, hc4]; done)
        rw [ekZ] at kZ
        exact kZ)
    have pre6 : ∀ tZ, Steps p.tables e below (s₁.setTop (mkF m 31 #[.val (.int p0), .val (.int p1), .val (.int p2), .val (.int p3), .val (.int (0 : Int32)), .val (.int (own_b (¬ ((p0 &&& (2 : Int32)) = (0 : Int32))))), .val (.int (p1 &&& (3 : Int32))), .unset, .unset, .unset, .unset, .unset] [])) tZ → Steps p.tables e below (s₁.setTop (entryFrame m #[(.int p0), (.int p1), (.int p2), (.int p3)] maxLocals)) tZ := fun tZ kZ => pre5 tZ (by
      show Steps p.tables e below (s₁.setTop (mkF m 24 #[.val (.int p0), .val (.int p1), .val (.int p2), .val (.int p3), .val (.int (0 : Int32)), .unset, .unset, .unset, .unset, .unset, .unset, .unset] [(.int (own_b (¬ ((p0 &&& (2 : Int32)) = (0 : Int32)))))])) _
      refine XS.istore X0.here hx rfl (hb hby at_24) rfl (l' := #[.val (.int p0), .val (.int p1), .val (.int p2), .val (.int p3), .val (.int (0 : Int32)), .val (.int (own_b (¬ ((p0 &&& (2 : Int32)) = (0 : Int32))))), .unset, .unset, .unset, .unset, .unset, .unset]) rfl ?_
      show Steps p.tables e below (s₁.setTop (mkF m 26 #[.val (.int p0), .val (.int p1), .val (.int p2), .val (.int p3), .val (.int (0 : Int32)), .val (.int (own_b (¬ ((p0 &&& (2 : Int32)) = (0 : Int32))))), .unset, .unset, .unset, .unset, .unset, .unset] [])) _
      refine XS.iloadN X0.here hx rfl (hb hby at_26) rfl  ?_
      show Steps p.tables e below (s₁.setTop (mkF m 27 #[.val (.int p0), .val (.int p1), .val (.int p2), .val (.int p3), .val (.int (0 : Int32)), .val (.int (own_b (¬ ((p0 &&& (2 : Int32)) = (0 : Int32))))), .unset, .unset, .unset, .unset, .unset, .unset] [(.int p1)])) _
      refine XS.iconst X0.here hx rfl (hb hby at_27) ?_
      show Steps p.tables e below (s₁.setTop (mkF m 28 #[.val (.int p0), .val (.int p1), .val (.int p2), .val (.int p3), .val (.int (0 : Int32)), .val (.int (own_b (¬ ((p0 &&& (2 : Int32)) = (0 : Int32))))), .unset, .unset, .unset, .unset, .unset, .unset] [(.int (3 : Int32)), (.int p1)])) _
      refine XS.iand X0.here hx rfl (hb hby at_28) rfl ?_
      show Steps p.tables e below (s₁.setTop (mkF m 29 #[.val (.int p0), .val (.int p1), .val (.int p2), .val (.int p3), .val (.int (0 : Int32)), .val (.int (own_b (¬ ((p0 &&& (2 : Int32)) = (0 : Int32))))), .unset, .unset, .unset, .unset, .unset, .unset] [(.int (p1 &&& (3 : Int32)))])) _
      refine XS.istore X0.here hx rfl (hb hby at_29) rfl (l' := #[.val (.int p0), .val (.int p1), .val (.int p2), .val (.int p3), .val (.int (0 : Int32)), .val (.int (own_b (¬ ((p0 &&& (2 : Int32)) = (0 : Int32))))), .val (.int (p1 &&& (3 : Int32))), .unset, .unset, .unset, .unset, .unset]) rfl ?_
      exact kZ)
    obtain ⟨av, hav⟩ : ∃ z, z = (p1 &&& (3 : Int32)) := ⟨_, rfl⟩
    rw [← hav] at pre6
    rcases own_a4 hav with rfl | rfl | rfl | rfl
    ·  -- a = 0
      obtain ⟨_, _, ⟨T7, L7, k7, n7⟩, -, X7, ⟨Lc7, hQ7, l7, y7, z7⟩, st7⟩ := Jvm.LawKit.callS X0 hx (y := (⟨"java/lang/Math", "min", "(II)I"⟩ : MethodName)) hown (mvT hZ (ow hw 1 rfl)) (mvT hZ (ow hw 2 rfl)) (mvT hZ (ow hw 3 rfl)) (mvT hZ (ow hw 4 rfl)) (by decide) (backOf (W := 0) (rm1 l Z a0 hw [] ((p2 &&& (2147483647 : Int32)) % (3 : Int32)) (0 : Int32) h0 n0 Z0 ) hZ (ow hw 4 rfl) (ow hw 3 rfl) (by decide) (by decide)) (g := (mkF m 39 #[.val (.int p0), .val (.int p1), .val (.int p2), .val (.int p3), .val (.int (0 : Int32)), .val (.int (own_b (¬ ((p0 &&& (2 : Int32)) = (0 : Int32))))), .val (.int (0 : Int32)), .unset, .unset, .unset, .unset, .unset] [(.int (0 : Int32)), (.int ((p2 &&& (2147483647 : Int32)) % (3 : Int32)))])) rfl (by rw [hml]; rfl) (argsL := [(.int ((p2 &&& (2147483647 : Int32)) % (3 : Int32))), (.int (0 : Int32))]) (rest := []) (lenOf pd6 rfl) rfl (by show 2 * 0 + _ ≤ _; exact Nat.le_of_eq rfl) (hb hby at_39) (fun _ _ => ⟨rfl, e0, (by decide : 0 + 0 ≤ _), (by decide : 0 + 0 ≤ _)⟩)
      dsimp only [Pt.U, Pt.locs, Pt.cells, Pt.slots] at X7 l7 y7 z7 st7 hQ7
      subst l7 y7 z7
      obtain ⟨rfl, N7q, e7⟩ := hQ7
      have N7 := Fr.app N0 N7q
      have pre8 : ∀ tZ, Steps p.tables e below (T7.setTop (mkF m 44 #[.val (.int p0), .val (.int p1), .val (.int p2), .val (.int p3), .val (.int (0 : Int32)), .val (.int (own_b (¬ ((p0 &&& (2 : Int32)) = (0 : Int32))))), .val (.int (0 : Int32)), .val (.int (if (0 : Int32) < ((p2 &&& (2147483647 : Int32)) % (3 : Int32)) then (0 : Int32) else ((p2 &&& (2147483647 : Int32)) % (3 : Int32)))), .unset, .unset, .unset, .unset] [])) tZ → Steps p.tables e below (s₁.setTop (entryFrame m #[(.int p0), (.int p1), (.int p2), (.int p3)] maxLocals)) tZ := fun tZ kZ => pre6 tZ (by
        show Steps p.tables e below (s₁.setTop (mkF m 31 #[.val (.int p0), .val (.int p1), .val (.int p2), .val (.int p3), .val (.int (0 : Int32)), .val (.int (own_b (¬ ((p0 &&& (2 : Int32)) = (0 : Int32))))), .val (.int (0 : Int32)), .unset, .unset, .unset, .unset, .unset] [])) _
        refine XS.iloadN X0.here hx rfl (hb hby at_31) rfl  ?_
        show Steps p.tables e below (s₁.setTop (mkF m 32 #[.val (.int p0), .val (.int p1), .val (.int p2), .val (.int p3), .val (.int (0 : Int32)), .val (.int (own_b (¬ ((p0 &&& (2 : Int32)) = (0 : Int32))))), .val (.int (0 : Int32)), .unset, .unset, .unset, .unset, .unset] [(.int p2)])) _
        refine X0.ldcInt hx hown (mvT hZ (ow hw 0 rfl)) (g := (mkF m 32 #[.val (.int p0), .val (.int p1), .val (.int p2), .val (.int p3), .val (.int (0 : Int32)), .val (.int (own_b (¬ ((p0 &&& (2 : Int32)) = (0 : Int32))))), .val (.int (0 : Int32)), .unset, .unset, .unset, .unset, .unset] [(.int p2)])) rfl (hb hby at_32) _ ?_
        show Steps p.tables e below (s₁.setTop (mkF m 34 #[.val (.int p0), .val (.int p1), .val (.int p2), .val (.int p3), .val (.int (0 : Int32)), .val (.int (own_b (¬ ((p0 &&& (2 : Int32)) = (0 : Int32))))), .val (.int (0 : Int32)), .unset, .unset, .unset, .unset, .unset] [(.int (2147483647 : Int32)), (.int p2)])) _
        refine XS.iand X0.here hx rfl (hb hby at_34) rfl ?_
        show Steps p.tables e below (s₁.setTop (mkF m 35 #[.val (.int p0), .val (.int p1), .val (.int p2), .val (.int p3), .val (.int (0 : Int32)), .val (.int (own_b (¬ ((p0 &&& (2 : Int32)) = (0 : Int32))))), .val (.int (0 : Int32)), .unset, .unset, .unset, .unset, .unset] [(.int (p2 &&& (2147483647 : Int32)))])) _
        refine XS.iconst X0.here hx rfl (hb hby at_35) ?_
        show Steps p.tables e below (s₁.setTop (mkF m 36 #[.val (.int p0), .val (.int p1), .val (.int p2), .val (.int p3), .val (.int (0 : Int32)), .val (.int (own_b (¬ ((p0 &&& (2 : Int32)) = (0 : Int32))))), .val (.int (0 : Int32)), .unset, .unset, .unset, .unset, .unset] [(.int (3 : Int32)), (.int (p2 &&& (2147483647 : Int32)))])) _
        refine iremM X0 hx rfl (hb hby at_36) rfl (by decide) ?_
        show Steps p.tables e below (s₁.setTop (mkF m 37 #[.val (.int p0), .val (.int p1), .val (.int p2), .val (.int p3), .val (.int (0 : Int32)), .val (.int (own_b (¬ ((p0 &&& (2 : Int32)) = (0 : Int32))))), .val (.int (0 : Int32)), .unset, .unset, .unset, .unset, .unset] [(.int ((p2 &&& (2147483647 : Int32)) % (3 : Int32)))])) _
        refine XS.iload X0.here hx rfl (hb hby at_37) rfl  ?_
        show Steps p.tables e below (s₁.setTop (mkF m 39 #[.val (.int p0), .val (.int p1), .val (.int p2), .val (.int p3), .val (.int (0 : Int32)), .val (.int (own_b (¬ ((p0 &&& (2 : Int32)) = (0 : Int32))))), .val (.int (0 : Int32)), .unset, .unset, .unset, .unset, .unset] [(.int (0 : Int32)), (.int ((p2 &&& (2147483647 : Int32)) % (3 : Int32)))])) _
        refine st7 _ ?_
        show Steps p.tables e below (T7.setTop (mkF m 42 #[.val (.int p0), .val (.int p1), .val (.int p2), .val (.int p3), .val (.int (0 : Int32)), .val (.int (own_b (¬ ((p0 &&& (2 : Int32)) = (0 : Int32))))), .val (.int (0 : Int32)), .unset, .unset, .unset, .unset, .unset] [(.int (if (0 : Int32) < ((p2 &&& (2147483647 : Int32)) % (3 : Int32)) then (0 : Int32) else ((p2 &&& (2147483647 : Int32)) % (3 : Int32))))])) _
        refine XS.istore X7.here hx rfl (hb hby at_42) rfl (l' := #[.val (.int p0), .val (.int p1), .val (.int p2), .val (.int p3), .val (.int (0 : Int32)), .val (.int (own_b (¬ ((p0 &&& (2 : Int32)) = (0 : Int32))))), .val (.int (0 : Int32)), .val (.int (if (0 : Int32) < ((p2 &&& (2147483647 : Int32)) % (3 : Int32)) then (0 : Int32) else ((p2 &&& (2147483647 : Int32)) % (3 : Int32)))), .unset, .unset, .unset, .unset]) rfl ?_
        exact kZ)
      obtain ⟨mv, hmv⟩ : ∃ z, z = (if (0 : Int32) < ((p2 &&& (2147483647 : Int32)) % (3 : Int32)) then (0 : Int32) else ((p2 &&& (2147483647 : Int32)) % (3 : Int32))) := ⟨_, rfl⟩
      rw [← hmv] at pre8
      have hm3 := own_min hmv (own_rem p2) (by decide)
      have hm4 := own_c3 hm3.1 hm3.2.1
      obtain ⟨_, _, ⟨T9, L9, k9, n9⟩, -, X9, ⟨Lc9, hQ9, l9, y9, z9⟩, st9⟩ := Jvm.LawKit.callS X7 hx (y := (⟨"java/lang/Math", "min", "(II)I"⟩ : MethodName)) hown (mvT hZ (ow hw 1 rfl)) (mvT hZ (ow hw 2 rfl)) (mvT hZ (ow hw 3 rfl)) (mvT hZ (ow hw 4 rfl)) (by decide) (backOf (W := 0) (rm1 l Z a0 hw [] ((p3 &&& (2147483647 : Int32)) % (3 : Int32)) ((0 : Int32) - mv) h0 n0 Z0 ) hZ (ow hw 4 rfl) (ow hw 3 rfl) (by decide) (by decide)) (g := (mkF m 55 #[.val (.int p0), .val (.int p1), .val (.int p2), .val (.int p3), .val (.int (0 : Int32)), .val (.int (own_b (¬ ((p0 &&& (2 : Int32)) = (0 : Int32))))), .val (.int (0 : Int32)), .val (.int mv), .unset, .unset, .unset, .unset] [(.int ((0 : Int32) - mv)), (.int ((p3 &&& (2147483647 : Int32)) % (3 : Int32)))])) rfl (by rw [hml]; rfl) (argsL := [(.int ((p3 &&& (2147483647 : Int32)) % (3 : Int32))), (.int ((0 : Int32) - mv))]) (rest := []) (lenOf pd6 rfl) rfl (by show 2 * 0 + _ ≤ _; exact Nat.le_of_eq rfl) (hb hby at_55) (fun _ _ => ⟨rfl, e7, (by decide : 0 + 0 ≤ _), (by decide : 0 + 0 ≤ _)⟩)
      dsimp only [Pt.U, Pt.locs, Pt.cells, Pt.slots] at X9 l9 y9 z9 st9 hQ9
      subst l9 y9 z9
      obtain ⟨rfl, N9q, e9⟩ := hQ9
      have N9 := Fr.app N7 N9q
      have pre10 : ∀ tZ, Steps p.tables e below (T9.setTop (mkF m 60 #[.val (.int p0), .val (.int p1), .val (.int p2), .val (.int p3), .val (.int (0 : Int32)), .val (.int (own_b (¬ ((p0 &&& (2 : Int32)) = (0 : Int32))))), .val (.int (0 : Int32)), .val (.int mv), .val (.int (if ((0 : Int32) - mv) < ((p3 &&& (2147483647 : Int32)) % (3 : Int32)) then ((0 : Int32) - mv) else ((p3 &&& (2147483647 : Int32)) % (3 : Int32)))), .unset, .unset, .unset] [])) tZ → Steps p.tables e below (s₁.setTop (entryFrame m #[(.int p0), (.int p1), (.int p2), (.int p3)] maxLocals)) tZ := fun tZ kZ => pre8 tZ (by
        show Steps p.tables e below (T7.setTop (mkF m 44 #[.val (.int p0), .val (.int p1), .val (.int p2), .val (.int p3), .val (.int (0 : Int32)), .val (.int (own_b (¬ ((p0 &&& (2 : Int32)) = (0 : Int32))))), .val (.int (0 : Int32)), .val (.int mv), .unset, .unset, .unset, .unset] [])) _
        refine XS.iloadN X7.here hx rfl (hb hby at_44) rfl  ?_
        show Steps p.tables e below (T7.setTop (mkF m 45 #[.val (.int p0), .val (.int p1), .val (.int p2), .val (.int p3), .val (.int (0 : Int32)), .val (.int (own_b (¬ ((p0 &&& (2 : Int32)) = (0 : Int32))))), .val (.int (0 : Int32)), .val (.int mv), .unset, .unset, .unset, .unset] [(.int p3)])) _
        refine X7.ldcInt hx hown (mvT hZ (ow hw 0 rfl)) (g := (mkF m 45 #[.val (.int p0), .val (.int p1), .val (.int p2), .val (.int p3), .val (.int (0 : Int32)), .val (.int (own_b (¬ ((p0 &&& (2 : Int32)) = (0 : Int32))))), .val (.int (0 : Int32)), .val (.int mv), .unset, .unset, .unset, .unset] [(.int p3)])) rfl (hb hby at_45) _ ?_
        show Steps p.tables e below (T7.setTop (mkF m 47 #[.val (.int p0), .val (.int p1), .val (.int p2), .val (.int p3), .val (.int (0 : Int32)), .val (.int (own_b (¬ ((p0 &&& (2 : Int32)) = (0 : Int32))))), .val (.int (0 : Int32)), .val (.int mv), .unset, .unset, .unset, .unset] [(.int (2147483647 : Int32)), (.int p3)])) _
        refine XS.iand X7.here hx rfl (hb hby at_47) rfl ?_
        show Steps p.tables e below (T7.setTop (mkF m 48 #[.val (.int p0), .val (.int p1), .val (.int p2), .val (.int p3), .val (.int (0 : Int32)), .val (.int (own_b (¬ ((p0 &&& (2 : Int32)) = (0 : Int32))))), .val (.int (0 : Int32)), .val (.int mv), .unset, .unset, .unset, .unset] [(.int (p3 &&& (2147483647 : Int32)))])) _
        refine XS.iconst X7.here hx rfl (hb hby at_48) ?_
        show Steps p.tables e below (T7.setTop (mkF m 49 #[.val (.int p0), .val (.int p1), .val (.int p2), .val (.int p3), .val (.int (0 : Int32)), .val (.int (own_b (¬ ((p0 &&& (2 : Int32)) = (0 : Int32))))), .val (.int (0 : Int32)), .val (.int mv), .unset, .unset, .unset, .unset] [(.int (3 : Int32)), (.int (p3 &&& (2147483647 : Int32)))])) _
        refine iremM X7 hx rfl (hb hby at_49) rfl (by decide) ?_
        show Steps p.tables e below (T7.setTop (mkF m 50 #[.val (.int p0), .val (.int p1), .val (.int p2), .val (.int p3), .val (.int (0 : Int32)), .val (.int (own_b (¬ ((p0 &&& (2 : Int32)) = (0 : Int32))))), .val (.int (0 : Int32)), .val (.int mv), .unset, .unset, .unset, .unset] [(.int ((p3 &&& (2147483647 : Int32)) % (3 : Int32)))])) _
        refine XS.iload X7.here hx rfl (hb hby at_50) rfl  ?_
        show Steps p.tables e below (T7.setTop (mkF m 52 #[.val (.int p0), .val (.int p1), .val (.int p2), .val (.int p3), .val (.int (0 : Int32)), .val (.int (own_b (¬ ((p0 &&& (2 : Int32)) = (0 : Int32))))), .val (.int (0 : Int32)), .val (.int mv), .unset, .unset, .unset, .unset] [(.int (0 : Int32)), (.int ((p3 &&& (2147483647 : Int32)) % (3 : Int32)))])) _
        refine XS.iload X7.here hx rfl (hb hby at_52) rfl  ?_
        show Steps p.tables e below (T7.setTop (mkF m 54 #[.val (.int p0), .val (.int p1), .val (.int p2), .val (.int p3), .val (.int (0 : Int32)), .val (.int (own_b (¬ ((p0 &&& (2 : Int32)) = (0 : Int32))))), .val (.int (0 : Int32)), .val (.int mv), .unset, .unset, .unset, .unset] [(.int mv), (.int (0 : Int32)), (.int ((p3 &&& (2147483647 : Int32)) % (3 : Int32)))])) _
        refine XS.isub X7.here hx rfl (hb hby at_54) rfl ?_
        show Steps p.tables e below (T7.setTop (mkF m 55 #[.val (.int p0), .val (.int p1), .val (.int p2), .val (.int p3), .val (.int (0 : Int32)), .val (.int (own_b (¬ ((p0 &&& (2 : Int32)) = (0 : Int32))))), .val (.int (0 : Int32)), .val (.int mv), .unset, .unset, .unset, .unset] [(.int ((0 : Int32) - mv)), (.int ((p3 &&& (2147483647 : Int32)) % (3 : Int32)))])) _
        refine st9 _ ?_
        show Steps p.tables e below (T9.setTop (mkF m 58 #[.val (.int p0), .val (.int p1), .val (.int p2), .val (.int p3), .val (.int (0 : Int32)), .val (.int (own_b (¬ ((p0 &&& (2 : Int32)) = (0 : Int32))))), .val (.int (0 : Int32)), .val (.int mv), .unset, .unset, .unset, .unset] [(.int (if ((0 : Int32) - mv) < ((p3 &&& (2147483647 : Int32)) % (3 : Int32)) then ((0 : Int32) - mv) else ((p3 &&& (2147483647 : Int32)) % (3 : Int32))))])) _
        refine XS.istore X9.here hx rfl (hb hby at_58) rfl (l' := #[.val (.int p0), .val (.int p1), .val (.int p2), .val (.int p3), .val (.int (0 : Int32)), .val (.int (own_b (¬ ((p0 &&& (2 : Int32)) = (0 : Int32))))), .val (.int (0 : Int32)), .val (.int mv), .val (.int (if ((0 : Int32) - mv) < ((p3 &&& (2147483647 : Int32)) % (3 : Int32)) then ((0 : Int32) - mv) else ((p3 &&& (2147483647 : Int32)) % (3 : Int32)))), .unset, .unset, .unset]) rfl ?_
        exact kZ)
      obtain ⟨nv, hnv⟩ : ∃ z, z = (if ((0 : Int32) - mv) < ((p3 &&& (2147483647 : Int32)) % (3 : Int32)) then ((0 : Int32) - mv) else ((p3 &&& (2147483647 : Int32)) % (3 : Int32))) := ⟨_, rfl⟩
      rw [← hnv] at pre10
      have hn3 := own_min hnv (own_rem p3) (own_nn hm4 hm3.2.2 (by decide))
      have hn4 := own_c3 hn3.1 hn3.2.1
      obtain ⟨T11, h11, X11, e11, E11, A11, D11, -, st11⟩ := newO X9 hx hZ hown (ow hw 5 rfl) (ow hw 6 rfl) (ow hw 7 rfl) e9 (g := (mkF m 60 #[.val (.int p0), .val (.int p1), .val (.int p2), .val (.int p3), .val (.int (0 : Int32)), .val (.int (own_b (¬ ((p0 &&& (2 : Int32)) = (0 : Int32))))), .val (.int (0 : Int32)), .val (.int mv), .val (.int nv), .unset, .unset, .unset] [])) rfl (hb hby at_60) (by decide) (by decide)
      obtain ⟨b11, g11⟩ : ∃ z, z = h0.size := ⟨_, rfl⟩
      rw [← g11] at A11 D11 st11
      have gn_b11 : n0 ≤ b11 := Nat.le_trans Z0 (Nat.le_of_eq g11.symm)
      have Z12 : n0 ≤ h11.size := Nat.le_trans Z0 E11.1
      have F__tasks_b11 : Fld Z h11 b11 oR "_tasks" "[Lcom/example/portunus/portunus/policy/WaitingTask;" .null := D11 (Or.inl (ow hw 20 rfl)) (ty := (.array (.object oW))) (by decide)
      have F__mayBeLostAfterUs_b11 : Fld Z h11 b11 oR "_mayBeLostAfterUs" "[D" .null := D11 (Or.inl (ow hw 22 rfl)) (ty := (.array .double)) (by decide)
      have F__size_b11 : Fld Z h11 b11 oR "_size" "I" (.int (0 : Int32)) := D11 (Or.inl (ow hw 29 rfl)) (ty := .int) (by decide)
      have F__first_b11 : Fld Z h11 b11 oR "_first" "I" (.int (0 : Int32)) := D11 (Or.inl (ow hw 35 rfl)) (ty := .int) (by decide)
      have F__lostSlots_b11 : Fld Z h11 b11 oR "_lostSlots" "I" (.int (0 : Int32)) := D11 (Or.inl (ow hw 44 rfl)) (ty := .int) (by decide)
      obtain ⟨_, _, ⟨T13, L13, k13, n13⟩, -, X13, ⟨Lc13, hQ13, l13, y13, z13⟩, st13⟩ := X11.specialBack hx (y := (⟨oR, "<init>", "(Z)V"⟩ : MethodName)) rfl hown (mvT hZ (ow hw 8 rfl)) (mvT hZ (ow hw 9 rfl)) (mvT hZ (ow hw 10 rfl)) (by decide) (backOf (W := 1) (rm2n l Z a0 hw [] b11 .null .null h11 n0 Z12 A11 F__tasks_b11 F__mayBeLostAfterUs_b11 F__size_b11 F__lostSlots_b11 F__first_b11 gn_b11) hZ (ow hw 10 rfl) (ow hw 7 rfl) (by decide) (by decide)) (g := (mkF m 66 #[.val (.int p0), .val (.int p1), .val (.int p2), .val (.int p3), .val (.int (0 : Int32)), .val (.int (own_b (¬ ((p0 &&& (2 : Int32)) = (0 : Int32))))), .val (.int (0 : Int32)), .val (.int mv), .val (.int nv), .unset, .unset, .unset] [(.int (0 : Int32)), (.ref b11), (.ref b11)])) rfl (by rw [hml]; rfl) (Steps.refl _) (a := b11) (argsL := [(.int (0 : Int32))]) (rest := [(.ref b11)]) (lenOf pd7 rfl) rfl (by show 2 * 0 + _ ≤ _; exact Nat.le_of_eq rfl) (hb hby at_66) (fun _ _ => ⟨rfl, e11, (by decide : 1 + 1 ≤ _), (by decide : 5 + 8 ≤ _)⟩)
      dsimp only [Pt.U, Pt.locs, Pt.cells, Pt.slots] at X13 l13 y13 z13 st13 hQ13
      subst l13 y13 z13
      obtain ⟨tk_14, kt_15, rfl, N13q, K13, u13_0, u13_1, f13_0, f13_1, f13_2, f13_3, f13_4, f13_5, f13_6⟩ := hQ13
      have N13 := Fr.app N9 N13q
      have Z16 : n0 ≤ T13.heap.size := Nat.le_trans Z12 K13.1
      have ne17 : b11 ≠ tk_14 := Nat.ne_of_lt (Nat.lt_of_lt_of_le A11.lt u13_1)
      obtain ⟨cq18, kq18, q18a, q18b, q18c⟩ := isOf hZ rfl f13_0
      obtain ⟨_, _, ⟨T18, L18, k18, n18⟩, -, X18, ⟨Lc18, hQ18, l18, y18, z18⟩, st18⟩ := X13.virtualBack hx (y := (⟨oR, "hasOther", "()Z"⟩ : MethodName)) (z := (⟨oR, "hasOther", "()Z"⟩ : MethodName)) hown (mvT hZ (ow hw 38 rfl)) (mvT hZ (ow hw 39 rfl)) (notFace_of_selects (args := #[]) (mvT hZ (ow hw 41 rfl))) (mvT hZ (ow hw 41 rfl)) (mvT hZ (ow hw 40 rfl)) (by decide) (backOf (W := 0) (rm7 l Z a0 hw [] b11 (0 : Int32) (0 : Int32) T13.heap n0 Z16 f13_3 f13_4) hZ (ow hw 42 rfl) (ow hw 7 rfl) (by decide) (by decide)) q18a q18c (g := (mkF m 116 #[.val (.int p0), .val (.int p1), .val (.int p2), .val (.int p3), .val (.int (0 : Int32)), .val (.int (own_b (¬ ((p0 &&& (2 : Int32)) = (0 : Int32))))), .val (.int (0 : Int32)), .val (.int mv), .val (.int nv), .val (.ref b11), .unset, .unset] [(.ref b11)])) rfl (by rw [hml]; rfl) (Steps.refl _) (argsL := []) (rest := []) (lenOf pd8 rfl) rfl (by show 2 * 0 + _ ≤ _; exact Nat.le_of_eq rfl) (hb hby at_116) (fun _ _ => ⟨rfl, rfl, (by decide : 2 + 0 ≤ _), (by decide : 13 + 0 ≤ _)⟩)
      dsimp only [Pt.U, Pt.locs, Pt.cells, Pt.slots] at X18 l18 y18 z18 st18 hQ18
      subst l18 y18 z18
      obtain ⟨rfl, N18q, e18⟩ := hQ18
      have N18 := Fr.app N13 N18q
      have pre19 : ∀ tZ, Steps p.tables e below (T18.setTop (mkF m 123 #[.val (.int p0), .val (.int p1), .val (.int p2), .val (.int p3), .val (.int (0 : Int32)), .val (.int (own_b (¬ ((p0 &&& (2 : Int32)) = (0 : Int32))))), .val (.int (0 : Int32)), .val (.int mv), .val (.int nv), .val (.ref b11), .val (.int (own_b ((0 : Int32) < (0 : Int32)))), .unset] [(.int (own_b (¬ ((p0 &&& (2 : Int32)) = (0 : Int32)))))])) tZ → Steps p.tables e below (s₁.setTop (entryFrame m #[(.int p0), (.int p1), (.int p2), (.int p3)] maxLocals)) tZ := fun tZ kZ => pre10 tZ (by
        show Steps p.tables e below (T9.setTop (mkF m 60 #[.val (.int p0), .val (.int p1), .val (.int p2), .val (.int p3), .val (.int (0 : Int32)), .val (.int (own_b (¬ ((p0 &&& (2 : Int32)) = (0 : Int32))))), .val (.int (0 : Int32)), .val (.int mv), .val (.int nv), .unset, .unset, .unset] [])) _
        refine st11 _ ?_
        show Steps p.tables e below (T11.setTop (mkF m 63 #[.val (.int p0), .val (.int p1), .val (.int p2), .val (.int p3), .val (.int (0 : Int32)), .val (.int (own_b (¬ ((p0 &&& (2 : Int32)) = (0 : Int32))))), .val (.int (0 : Int32)), .val (.int mv), .val (.int nv), .unset, .unset, .unset] [(.ref b11)])) _
        refine XS.dup X11.here hx rfl (hb hby at_63) rfl rfl ?_
        show Steps p.tables e below (T11.setTop (mkF m 64 #[.val (.int p0), .val (.int p1), .val (.int p2), .val (.int p3), .val (.int (0 : Int32)), .val (.int (own_b (¬ ((p0 &&& (2 : Int32)) = (0 : Int32))))), .val (.int (0 : Int32)), .val (.int mv), .val (.int nv), .unset, .unset, .unset] [(.ref b11), (.ref b11)])) _
        refine XS.iload X11.here hx rfl (hb hby at_64) rfl  ?_
        show Steps p.tables e below (T11.setTop (mkF m 66 #[.val (.int p0), .val (.int p1), .val (.int p2), .val (.int p3), .val (.int (0 : Int32)), .val (.int (own_b (¬ ((p0 &&& (2 : Int32)) = (0 : Int32))))), .val (.int (0 : Int32)), .val (.int mv), .val (.int nv), .unset, .unset, .unset] [(.int (0 : Int32)), (.ref b11), (.ref b11)])) _
        refine st13.trans ?_
        show Steps p.tables e below (T13.setTop (mkF m 69 #[.val (.int p0), .val (.int p1), .val (.int p2), .val (.int p3), .val (.int (0 : Int32)), .val (.int (own_b (¬ ((p0 &&& (2 : Int32)) = (0 : Int32))))), .val (.int (0 : Int32)), .val (.int mv), .val (.int nv), .unset, .unset, .unset] [(.ref b11)])) _
        refine XS.astore X13.here hx rfl (hb hby at_69) rfl rfl (l' := #[.val (.int p0), .val (.int p1), .val (.int p2), .val (.int p3), .val (.int (0 : Int32)), .val (.int (own_b (¬ ((p0 &&& (2 : Int32)) = (0 : Int32))))), .val (.int (0 : Int32)), .val (.int mv), .val (.int nv), .val (.ref b11), .unset, .unset]) rfl ?_
        show Steps p.tables e below (T13.setTop (mkF m 71 #[.val (.int p0), .val (.int p1), .val (.int p2), .val (.int p3), .val (.int (0 : Int32)), .val (.int (own_b (¬ ((p0 &&& (2 : Int32)) = (0 : Int32))))), .val (.int (0 : Int32)), .val (.int mv), .val (.int nv), .val (.ref b11), .unset, .unset] [])) _
        refine XS.iload X13.here hx rfl (hb hby at_71) rfl  ?_
        show Steps p.tables e below (T13.setTop (mkF m 73 #[.val (.int p0), .val (.int p1), .val (.int p2), .val (.int p3), .val (.int (0 : Int32)), .val (.int (own_b (¬ ((p0 &&& (2 : Int32)) = (0 : Int32))))), .val (.int (0 : Int32)), .val (.int mv), .val (.int nv), .val (.ref b11), .unset, .unset] [(.int (0 : Int32))])) _
        refine XS.iconst X13.here hx rfl (hb hby at_73) ?_
        show Steps p.tables e below (T13.setTop (mkF m 74 #[.val (.int p0), .val (.int p1), .val (.int p2), .val (.int p3), .val (.int (0 : Int32)), .val (.int (own_b (¬ ((p0 &&& (2 : Int32)) = (0 : Int32))))), .val (.int (0 : Int32)), .val (.int mv), .val (.int nv), .val (.ref b11), .unset, .unset] [(.int (1 : Int32)), (.int (0 : Int32))])) _
        refine XS.icmpYes X13.here hx rfl (pc0 := 74) (pc' := 84) rfl (hb hby at_74) rfl (tlt (by decide)).1 (by decide) (by decide) ?_
        show Steps p.tables e below (T13.setTop (mkF m 84 #[.val (.int p0), .val (.int p1), .val (.int p2), .val (.int p3), .val (.int (0 : Int32)), .val (.int (own_b (¬ ((p0 &&& (2 : Int32)) = (0 : Int32))))), .val (.int (0 : Int32)), .val (.int mv), .val (.int nv), .val (.ref b11), .unset, .unset] [])) _
        refine XS.iload X13.here hx rfl (hb hby at_84) rfl  ?_
        show Steps p.tables e below (T13.setTop (mkF m 86 #[.val (.int p0), .val (.int p1), .val (.int p2), .val (.int p3), .val (.int (0 : Int32)), .val (.int (own_b (¬ ((p0 &&& (2 : Int32)) = (0 : Int32))))), .val (.int (0 : Int32)), .val (.int mv), .val (.int nv), .val (.ref b11), .unset, .unset] [(.int (0 : Int32))])) _
        refine XS.iconst X13.here hx rfl (hb hby at_86) ?_
        show Steps p.tables e below (T13.setTop (mkF m 87 #[.val (.int p0), .val (.int p1), .val (.int p2), .val (.int p3), .val (.int (0 : Int32)), .val (.int (own_b (¬ ((p0 &&& (2 : Int32)) = (0 : Int32))))), .val (.int (0 : Int32)), .val (.int mv), .val (.int nv), .val (.ref b11), .unset, .unset] [(.int (2 : Int32)), (.int (0 : Int32))])) _
        refine XS.icmpYes X13.here hx rfl (pc0 := 87) (pc' := 99) rfl (hb hby at_87) rfl (tlt (by decide)).1 (by decide) (by decide) ?_
        show Steps p.tables e below (T13.setTop (mkF m 99 #[.val (.int p0), .val (.int p1), .val (.int p2), .val (.int p3), .val (.int (0 : Int32)), .val (.int (own_b (¬ ((p0 &&& (2 : Int32)) = (0 : Int32))))), .val (.int (0 : Int32)), .val (.int mv), .val (.int nv), .val (.ref b11), .unset, .unset] [])) _
        refine XS.iload X13.here hx rfl (hb hby at_99) rfl  ?_
        show Steps p.tables e below (T13.setTop (mkF m 101 #[.val (.int p0), .val (.int p1), .val (.int p2), .val (.int p3), .val (.int (0 : Int32)), .val (.int (own_b (¬ ((p0 &&& (2 : Int32)) = (0 : Int32))))), .val (.int (0 : Int32)), .val (.int mv), .val (.int nv), .val (.ref b11), .unset, .unset] [(.int (0 : Int32))])) _
        refine XS.iconst X13.here hx rfl (hb hby at_101) ?_
        show Steps p.tables e below (T13.setTop (mkF m 102 #[.val (.int p0), .val (.int p1), .val (.int p2), .val (.int p3), .val (.int (0 : Int32)), .val (.int (own_b (¬ ((p0 &&& (2 : Int32)) = (0 : Int32))))), .val (.int (0 : Int32)), .val (.int mv), .val (.int nv), .val (.ref b11), .unset, .unset] [(.int (3 : Int32)), (.int (0 : Int32))])) _
        refine XS.icmpYes X13.here hx rfl (pc0 := 102) (pc' := 114) rfl (hb hby at_102) rfl (tlt (by decide)).1 (by decide) (by decide) ?_
        show Steps p.tables e below (T13.setTop (mkF m 114 #[.val (.int p0), .val (.int p1), .val (.int p2), .val (.int p3), .val (.int (0 : Int32)), .val (.int (own_b (¬ ((p0 &&& (2 : Int32)) = (0 : Int32))))), .val (.int (0 : Int32)), .val (.int mv), .val (.int nv), .val (.ref b11), .unset, .unset] [])) _
        refine XS.aload X13.here hx rfl (hb hby at_114) rfl rfl ?_
        show Steps p.tables e below (T13.setTop (mkF m 116 #[.val (.int p0), .val (.int p1), .val (.int p2), .val (.int p3), .val (.int (0 : Int32)), .val (.int (own_b (¬ ((p0 &&& (2 : Int32)) = (0 : Int32))))), .val (.int (0 : Int32)), .val (.int mv), .val (.int nv), .val (.ref b11), .unset, .unset] [(.ref b11)])) _
        refine st18.trans ?_
        show Steps p.tables e below (T18.setTop (mkF m 119 #[.val (.int p0), .val (.int p1), .val (.int p2), .val (.int p3), .val (.int (0 : Int32)), .val (.int (own_b (¬ ((p0 &&& (2 : Int32)) = (0 : Int32))))), .val (.int (0 : Int32)), .val (.int mv), .val (.int nv), .val (.ref b11), .unset, .unset] [(.int (own_b ((0 : Int32) < (0 : Int32))))])) _
        refine XS.istore X18.here hx rfl (hb hby at_119) rfl (l' := #[.val (.int p0), .val (.int p1), .val (.int p2), .val (.int p3), .val (.int (0 : Int32)), .val (.int (own_b (¬ ((p0 &&& (2 : Int32)) = (0 : Int32))))), .val (.int (0 : Int32)), .val (.int mv), .val (.int nv), .val (.ref b11), .val (.int (own_b ((0 : Int32) < (0 : Int32)))), .unset]) rfl ?_
        show Steps p.tables e below (T18.setTop (mkF m 121 #[.val (.int p0), .val (.int p1), .val (.int p2), .val (.int p3), .val (.int (0 : Int32)), .val (.int (own_b (¬ ((p0 &&& (2 : Int32)) = (0 : Int32))))), .val (.int (0 : Int32)), .val (.int mv), .val (.int nv), .val (.ref b11), .val (.int (own_b ((0 : Int32) < (0 : Int32)))), .unset] [])) _
        refine XS.iload X18.here hx rfl (hb hby at_121) rfl  ?_
        exact kZ)
      by_cases hc20 : (¬ ((p0 &&& (2 : Int32)) = (0 : Int32)))
      ·  -- yes
        obtain ⟨_, _, ⟨T21, L21, k21, n21⟩, -, X21, ⟨Lc21, hQ21, l21, y21, z21⟩, st21⟩ := Jvm.LawKit.callS X18 hx (y := (⟨oL, "doPolls", "(Lcom/example/portunus/portunus/policy/Run;I)V"⟩ : MethodName)) hown (mvT hZ (ow hw 54 rfl)) (mvT hZ (ow hw 55 rfl)) (mvT hZ (ow hw 47 rfl)) (mvT hZ (ow hw 56 rfl)) (by decide) (backOf (W := 0) (rm10n l Z a0 hw [] b11 nv tk_14 (0 : Int32) (0 : Int32) (0 : Int32) kt_15 T13.heap n0 Z16 f13_0 f13_1 f13_2 f13_3 f13_4 f13_5 f13_6 gn_b11 u13_0 ne17 hn4 (by decide)) hZ (ow hw 56 rfl) (ow hw 47 rfl) (by decide) (by decide)) (g := (mkF m 130 #[.val (.int p0), .val (.int p1), .val (.int p2), .val (.int p3), .val (.int (0 : Int32)), .val (.int (own_b (¬ ((p0 &&& (2 : Int32)) = (0 : Int32))))), .val (.int (0 : Int32)), .val (.int mv), .val (.int nv), .val (.ref b11), .val (.int (own_b ((0 : Int32) < (0 : Int32)))), .unset] [(.int nv), (.ref b11)])) rfl (by rw [hml]; rfl) (argsL := [(.ref b11), (.int nv)]) (rest := []) (lenOf pd9 rfl) rfl (by show 2 * 0 + _ ≤ _; exact Nat.le_of_eq rfl) (hb hby at_130) (fun _ _ => ⟨rfl, e18, (by decide : 2 + 0 ≤ _), (by decide : 13 + 0 ≤ _)⟩)
        dsimp only [Pt.U, Pt.locs, Pt.cells, Pt.slots] at X21 l21 y21 z21 st21 hQ21
        subst l21 y21 z21
        obtain ⟨fn_22, rfl, N21q, K21, f21_0, f21_1, f21_2, f21_3, f21_4, f21_5, f21_6⟩ := hQ21
        have N21 := Fr.app N18 N21q
        have Z23 : n0 ≤ T21.heap.size := Nat.le_trans Z16 K21.1
        obtain ⟨_, _, ⟨T24, L24, k24, n24⟩, -, X24, ⟨Lc24, hQ24, l24, y24, z24⟩, st24⟩ := Jvm.LawKit.callS X21 hx (y := (⟨oL, "doMarks", "(Lcom/example/portunus/portunus/policy/Run;I)V"⟩ : MethodName)) hown (mvT hZ (ow hw 45 rfl)) (mvT hZ (ow hw 46 rfl)) (mvT hZ (ow hw 47 rfl)) (mvT hZ (ow hw 48 rfl)) (by decide) (backOf (W := 0) (rm8n l Z a0 hw [] b11 mv tk_14 (own_ps (0 : Int32) (0 : Int32) nv) (own_pl (0 : Int32) nv) fn_22 kt_15 T21.heap n0 Z23 f21_0 f21_1 f21_2 f21_3 f21_4 f21_5 f21_6 gn_b11 u13_0 ne17 hm4) hZ (ow hw 48 rfl) (ow hw 47 rfl) (by decide) (by decide)) (g := (mkF m 137 #[.val (.int p0), .val (.int p1), .val (.int p2), .val (.int p3), .val (.int (0 : Int32)), .val (.int (own_b (¬ ((p0 &&& (2 : Int32)) = (0 : Int32))))), .val (.int (0 : Int32)), .val (.int mv), .val (.int nv), .val (.ref b11), .val (.int (own_b ((0 : Int32) < (0 : Int32)))), .unset] [(.int mv), (.ref b11)])) rfl (by rw [hml]; rfl) (argsL := [(.ref b11), (.int mv)]) (rest := []) (lenOf pd9 rfl) rfl (by show 2 * 0 + _ ≤ _; exact Nat.le_of_eq rfl) (hb hby at_137) (fun _ _ => ⟨rfl, rfl, (by decide : 2 + 0 ≤ _), (by decide : 13 + 0 ≤ _)⟩)
        dsimp only [Pt.U, Pt.locs, Pt.cells, Pt.slots] at X24 l24 y24 z24 st24 hQ24
        subst l24 y24 z24
        obtain ⟨rfl, N24q, K24, f24_0, f24_1, f24_2, f24_3, f24_4, f24_5, f24_6⟩ := hQ24
        have N24 := Fr.app N21 N24q
        have Z25 : n0 ≤ T24.heap.size := Nat.le_trans Z23 K24.1
        obtain ⟨cq26, kq26, q26a, q26b, q26c⟩ := isOf hZ rfl f24_0
        obtain ⟨_, _, ⟨T26, L26, k26, n26⟩, -, X26, ⟨Lc26, hQ26, l26, y26, z26⟩, st26⟩ := X24.virtualBack hx (y := (⟨oR, "hasOther", "()Z"⟩ : MethodName)) (z := (⟨oR, "hasOther", "()Z"⟩ : MethodName)) hown (mvT hZ (ow hw 38 rfl)) (mvT hZ (ow hw 39 rfl)) (notFace_of_selects (args := #[]) (mvT hZ (ow hw 41 rfl))) (mvT hZ (ow hw 41 rfl)) (mvT hZ (ow hw 40 rfl)) (by decide) (backOf (W := 0) (rm7 l Z a0 hw [] b11 (own_ps (0 : Int32) (0 : Int32) nv) ((own_pl (0 : Int32) nv) + mv) T24.heap n0 Z25 f24_3 f24_4) hZ (ow hw 42 rfl) (ow hw 7 rfl) (by decide) (by decide)) q26a q26c (g := (mkF m 159 #[.val (.int p0), .val (.int p1), .val (.int p2), .val (.int p3), .val (.int (0 : Int32)), .val (.int (own_b (¬ ((p0 &&& (2 : Int32)) = (0 : Int32))))), .val (.int (0 : Int32)), .val (.int mv), .val (.int nv), .val (.ref b11), .val (.int (own_b ((0 : Int32) < (0 : Int32)))), .unset] [(.ref b11)])) rfl (by rw [hml]; rfl) (Steps.refl _) (argsL := []) (rest := []) (lenOf pd8 rfl) rfl (by show 2 * 0 + _ ≤ _; exact Nat.le_of_eq rfl) (hb hby at_159) (fun _ _ => ⟨rfl, rfl, (by decide : 2 + 0 ≤ _), (by decide : 13 + 0 ≤ _)⟩)
        dsimp only [Pt.U, Pt.locs, Pt.cells, Pt.slots] at X26 l26 y26 z26 st26 hQ26
        subst l26 y26 z26
        obtain ⟨rfl, N26q, e26⟩ := hQ26
        have N26 := Fr.app N24 N26q
        have pre27 : ∀ tZ, Steps p.tables e below (T26.setTop (mkF m 189 #[.val (.int p0), .val (.int p1), .val (.int p2), .val (.int p3), .val (.int (0 : Int32)), .val (.int (own_b (¬ ((p0 &&& (2 : Int32)) = (0 : Int32))))), .val (.int (0 : Int32)), .val (.int mv), .val (.int nv), .val (.ref b11), .val (.int (own_b ((0 : Int32) < (0 : Int32)))), .val (.int (own_b (((own_pl (0 : Int32) nv) + mv) < (own_ps (0 : Int32) (0 : Int32) nv))))] [(.int (((0 : Int32) - mv) - nv)), (.int (own_b (((own_pl (0 : Int32) nv) + mv) < (own_ps (0 : Int32) (0 : Int32) nv))))])) tZ → Steps p.tables e below (s₁.setTop (entryFrame m #[(.int p0), (.int p1), (.int p2), (.int p3)] maxLocals)) tZ := fun tZ kZ => pre19 tZ (by
          show Steps p.tables e below (T18.setTop (mkF m 123 #[.val (.int p0), .val (.int p1), .val (.int p2), .val (.int p3), .val (.int (0 : Int32)), .val (.int (own_b (¬ ((p0 &&& (2 : Int32)) = (0 : Int32))))), .val (.int (0 : Int32)), .val (.int mv), .val (.int nv), .val (.ref b11), .val (.int (own_b ((0 : Int32) < (0 : Int32)))), .unset] [(.int (own_b (¬ ((p0 &&& (2 : Int32)) = (0 : Int32)))))])) _
          refine XS.ifNo X18.here hx rfl (hb hby at_123) rfl ((if0 _ _).trans (feq (own_b_nz hc20)).1) ?_
          show Steps p.tables e below (T18.setTop (mkF m 126 #[.val (.int p0), .val (.int p1), .val (.int p2), .val (.int p3), .val (.int (0 : Int32)), .val (.int (own_b (¬ ((p0 &&& (2 : Int32)) = (0 : Int32))))), .val (.int (0 : Int32)), .val (.int mv), .val (.int nv), .val (.ref b11), .val (.int (own_b ((0 : Int32) < (0 : Int32)))), .unset] [])) _
          refine XS.aload X18.here hx rfl (hb hby at_126) rfl rfl ?_
          show Steps p.tables e below (T18.setTop (mkF m 128 #[.val (.int p0), .val (.int p1), .val (.int p2), .val (.int p3), .val (.int (0 : Int32)), .val (.int (own_b (¬ ((p0 &&& (2 : Int32)) = (0 : Int32))))), .val (.int (0 : Int32)), .val (.int mv), .val (.int nv), .val (.ref b11), .val (.int (own_b ((0 : Int32) < (0 : Int32)))), .unset] [(.ref b11)])) _
          refine XS.iload X18.here hx rfl (hb hby at_128) rfl  ?_
          show Steps p.tables e below (T18.setTop (mkF m 130 #[.val (.int p0), .val (.int p1), .val (.int p2), .val (.int p3), .val (.int (0 : Int32)), .val (.int (own_b (¬ ((p0 &&& (2 : Int32)) = (0 : Int32))))), .val (.int (0 : Int32)), .val (.int mv), .val (.int nv), .val (.ref b11), .val (.int (own_b ((0 : Int32) < (0 : Int32)))), .unset] [(.int nv), (.ref b11)])) _
          refine st21 _ ?_
          show Steps p.tables e below (T21.setTop (mkF m 133 #[.val (.int p0), .val (.int p1), .val (.int p2), .val (.int p3), .val (.int (0 : Int32)), .val (.int (own_b (¬ ((p0 &&& (2 : Int32)) = (0 : Int32))))), .val (.int (0 : Int32)), .val (.int mv), .val (.int nv), .val (.ref b11), .val (.int (own_b ((0 : Int32) < (0 : Int32)))), .unset] [])) _
          refine XS.aload X21.here hx rfl (hb hby at_133) rfl rfl ?_
          show Steps p.tables e below (T21.setTop (mkF m 135 #[.val (.int p0), .val (.int p1), .val (.int p2), .val (.int p3), .val (.int (0 : Int32)), .val (.int (own_b (¬ ((p0 &&& (2 : Int32)) = (0 : Int32))))), .val (.int (0 : Int32)), .val (.int mv), .val (.int nv), .val (.ref b11), .val (.int (own_b ((0 : Int32) < (0 : Int32)))), .unset] [(.ref b11)])) _
          refine XS.iload X21.here hx rfl (hb hby at_135) rfl  ?_
          show Steps p.tables e below (T21.setTop (mkF m 137 #[.val (.int p0), .val (.int p1), .val (.int p2), .val (.int p3), .val (.int (0 : Int32)), .val (.int (own_b (¬ ((p0 &&& (2 : Int32)) = (0 : Int32))))), .val (.int (0 : Int32)), .val (.int mv), .val (.int nv), .val (.ref b11), .val (.int (own_b ((0 : Int32) < (0 : Int32)))), .unset] [(.int mv), (.ref b11)])) _
          refine st24 _ ?_
          show Steps p.tables e below (T24.setTop (mkF m 140 #[.val (.int p0), .val (.int p1), .val (.int p2), .val (.int p3), .val (.int (0 : Int32)), .val (.int (own_b (¬ ((p0 &&& (2 : Int32)) = (0 : Int32))))), .val (.int (0 : Int32)), .val (.int mv), .val (.int nv), .val (.ref b11), .val (.int (own_b ((0 : Int32) < (0 : Int32)))), .unset] [])) _
          refine XS.goto X24.here hx rfl (pc0 := 140) (pc' := 157) rfl (hb hby at_140) (by decide) (by decide) ?_
          show Steps p.tables e below (T24.setTop (mkF m 157 #[.val (.int p0), .val (.int p1), .val (.int p2), .val (.int p3), .val (.int (0 : Int32)), .val (.int (own_b (¬ ((p0 &&& (2 : Int32)) = (0 : Int32))))), .val (.int (0 : Int32)), .val (.int mv), .val (.int nv), .val (.ref b11), .val (.int (own_b ((0 : Int32) < (0 : Int32)))), .unset] [])) _
          refine XS.aload X24.here hx rfl (hb hby at_157) rfl rfl ?_
          show Steps p.tables e below (T24.setTop (mkF m 159 #[.val (.int p0), .val (.int p1), .val (.int p2), .val (.int p3), .val (.int (0 : Int32)), .val (.int (own_b (¬ ((p0 &&& (2 : Int32)) = (0 : Int32))))), .val (.int (0 : Int32)), .val (.int mv), .val (.int nv), .val (.ref b11), .val (.int (own_b ((0 : Int32) < (0 : Int32)))), .unset] [(.ref b11)])) _
          refine st26.trans ?_
          show Steps p.tables e below (T26.setTop (mkF m 162 #[.val (.int p0), .val (.int p1), .val (.int p2), .val (.int p3), .val (.int (0 : Int32)), .val (.int (own_b (¬ ((p0 &&& (2 : Int32)) = (0 : Int32))))), .val (.int (0 : Int32)), .val (.int mv), .val (.int nv), .val (.ref b11), .val (.int (own_b ((0 : Int32) < (0 : Int32)))), .unset] [(.int (own_b (((own_pl (0 : Int32) nv) + mv) < (own_ps (0 : Int32) (0 : Int32) nv))))])) _
          refine XS.istore X26.here hx rfl (hb hby at_162) rfl (l' := #[.val (.int p0), .val (.int p1), .val (.int p2), .val (.int p3), .val (.int (0 : Int32)), .val (.int (own_b (¬ ((p0 &&& (2 : Int32)) = (0 : Int32))))), .val (.int (0 : Int32)), .val (.int mv), .val (.int nv), .val (.ref b11), .val (.int (own_b ((0 : Int32) < (0 : Int32)))), .val (.int (own_b (((own_pl (0 : Int32) nv) + mv) < (own_ps (0 : Int32) (0 : Int32) nv))))]) rfl ?_
          show Steps p.tables e below (T26.setTop (mkF m 164 #[.val (.int p0), .val (.int p1), .val (.int p2), .val (.int p3), .val (.int (0 : Int32)), .val (.int (own_b (¬ ((p0 &&& (2 : Int32)) = (0 : Int32))))), .val (.int (0 : Int32)), .val (.int mv), .val (.int nv), .val (.ref b11), .val (.int (own_b ((0 : Int32) < (0 : Int32)))), .val (.int (own_b (((own_pl (0 : Int32) nv) + mv) < (own_ps (0 : Int32) (0 : Int32) nv))))] [])) _
          refine XS.iload X26.here hx rfl (hb hby at_164) rfl  ?_
          show Steps p.tables e below (T26.setTop (mkF m 166 #[.val (.int p0), .val (.int p1), .val (.int p2), .val (.int p3), .val (.int (0 : Int32)), .val (.int (own_b (¬ ((p0 &&& (2 : Int32)) = (0 : Int32))))), .val (.int (0 : Int32)), .val (.int mv), .val (.int nv), .val (.ref b11), .val (.int (own_b ((0 : Int32) < (0 : Int32)))), .val (.int (own_b (((own_pl (0 : Int32) nv) + mv) < (own_ps (0 : Int32) (0 : Int32) nv))))] [(.int (own_b ((0 : Int32) < (0 : Int32))))])) _
          refine XS.iload X26.here hx rfl (hb hby at_166) rfl  ?_
          show Steps p.tables e below (T26.setTop (mkF m 168 #[.val (.int p0), .val (.int p1), .val (.int p2), .val (.int p3), .val (.int (0 : Int32)), .val (.int (own_b (¬ ((p0 &&& (2 : Int32)) = (0 : Int32))))), .val (.int (0 : Int32)), .val (.int mv), .val (.int nv), .val (.ref b11), .val (.int (own_b ((0 : Int32) < (0 : Int32)))), .val (.int (own_b (((own_pl (0 : Int32) nv) + mv) < (own_ps (0 : Int32) (0 : Int32) nv))))] [(.int (0 : Int32)), (.int (own_b ((0 : Int32) < (0 : Int32))))])) _
          refine XS.ifYes X26.here hx rfl (pc0 := 168) (pc' := 175) rfl (hb hby at_168) rfl ((if0 _ _).trans (flt (by decide)).2.2.2) (by decide) (by decide) ?_
          show Steps p.tables e below (T26.setTop (mkF m 175 #[.val (.int p0), .val (.int p1), .val (.int p2), .val (.int p3), .val (.int (0 : Int32)), .val (.int (own_b (¬ ((p0 &&& (2 : Int32)) = (0 : Int32))))), .val (.int (0 : Int32)), .val (.int mv), .val (.int nv), .val (.ref b11), .val (.int (own_b ((0 : Int32) < (0 : Int32)))), .val (.int (own_b (((own_pl (0 : Int32) nv) + mv) < (own_ps (0 : Int32) (0 : Int32) nv))))] [(.int (own_b ((0 : Int32) < (0 : Int32))))])) _
          refine XS.iconst X26.here hx rfl (hb hby at_175) ?_
          show Steps p.tables e below (T26.setTop (mkF m 176 #[.val (.int p0), .val (.int p1), .val (.int p2), .val (.int p3), .val (.int (0 : Int32)), .val (.int (own_b (¬ ((p0 &&& (2 : Int32)) = (0 : Int32))))), .val (.int (0 : Int32)), .val (.int mv), .val (.int nv), .val (.ref b11), .val (.int (own_b ((0 : Int32) < (0 : Int32)))), .val (.int (own_b (((own_pl (0 : Int32) nv) + mv) < (own_ps (0 : Int32) (0 : Int32) nv))))] [(.int (0 : Int32)), (.int (own_b ((0 : Int32) < (0 : Int32))))])) _
          refine XS.icmpNo X26.here hx rfl (hb hby at_176) rfl (teq (by decide)).2 ?_
          show Steps p.tables e below (T26.setTop (mkF m 179 #[.val (.int p0), .val (.int p1), .val (.int p2), .val (.int p3), .val (.int (0 : Int32)), .val (.int (own_b (¬ ((p0 &&& (2 : Int32)) = (0 : Int32))))), .val (.int (0 : Int32)), .val (.int mv), .val (.int nv), .val (.ref b11), .val (.int (own_b ((0 : Int32) < (0 : Int32)))), .val (.int (own_b (((own_pl (0 : Int32) nv) + mv) < (own_ps (0 : Int32) (0 : Int32) nv))))] [])) _
          refine XS.iload X26.here hx rfl (hb hby at_179) rfl  ?_
          show Steps p.tables e below (T26.setTop (mkF m 181 #[.val (.int p0), .val (.int p1), .val (.int p2), .val (.int p3), .val (.int (0 : Int32)), .val (.int (own_b (¬ ((p0 &&& (2 : Int32)) = (0 : Int32))))), .val (.int (0 : Int32)), .val (.int mv), .val (.int nv), .val (.ref b11), .val (.int (own_b ((0 : Int32) < (0 : Int32)))), .val (.int (own_b (((own_pl (0 : Int32) nv) + mv) < (own_ps (0 : Int32) (0 : Int32) nv))))] [(.int (own_b (((own_pl (0 : Int32) nv) + mv) < (own_ps (0 : Int32) (0 : Int32) nv))))])) _
          refine XS.iload X26.here hx rfl (hb hby at_181) rfl  ?_
          show Steps p.tables e below (T26.setTop (mkF m 183 #[.val (.int p0), .val (.int p1), .val (.int p2), .val (.int p3), .val (.int (0 : Int32)), .val (.int (own_b (¬ ((p0 &&& (2 : Int32)) = (0 : Int32))))), .val (.int (0 : Int32)), .val (.int mv), .val (.int nv), .val (.ref b11), .val (.int (own_b ((0 : Int32) < (0 : Int32)))), .val (.int (own_b (((own_pl (0 : Int32) nv) + mv) < (own_ps (0 : Int32) (0 : Int32) nv))))] [(.int (0 : Int32)), (.int (own_b (((own_pl (0 : Int32) nv) + mv) < (own_ps (0 : Int32) (0 : Int32) nv))))])) _
          refine XS.iload X26.here hx rfl (hb hby at_183) rfl  ?_
          show Steps p.tables e below (T26.setTop (mkF m 185 #[.val (.int p0), .val (.int p1), .val (.int p2), .val (.int p3), .val (.int (0 : Int32)), .val (.int (own_b (¬ ((p0 &&& (2 : Int32)) = (0 : Int32))))), .val (.int (0 : Int32)), .val (.int mv), .val (.int nv), .val (.ref b11), .val (.int (own_b ((0 : Int32) < (0 : Int32)))), .val (.int (own_b (((own_pl (0 : Int32) nv) + mv) < (own_ps (0 : Int32) (0 : Int32) nv))))] [(.int mv), (.int (0 : Int32)), (.int (own_b (((own_pl (0 : Int32) nv) + mv) < (own_ps (0 : Int32) (0 : Int32) nv))))])) _
          refine XS.isub X26.here hx rfl (hb hby at_185) rfl ?_
          show Steps p.tables e below (T26.setTop (mkF m 186 #[.val (.int p0), .val (.int p1), .val (.int p2), .val (.int p3), .val (.int (0 : Int32)), .val (.int (own_b (¬ ((p0 &&& (2 : Int32)) = (0 : Int32))))), .val (.int (0 : Int32)), .val (.int mv), .val (.int nv), .val (.ref b11), .val (.int (own_b ((0 : Int32) < (0 : Int32)))), .val (.int (own_b (((own_pl (0 : Int32) nv) + mv) < (own_ps (0 : Int32) (0 : Int32) nv))))] [(.int ((0 : Int32) - mv)), (.int (own_b (((own_pl (0 : Int32) nv) + mv) < (own_ps (0 : Int32) (0 : Int32) nv))))])) _
          refine XS.iload X26.here hx rfl (hb hby at_186) rfl  ?_
          show Steps p.tables e below (T26.setTop (mkF m 188 #[.val (.int p0), .val (.int p1), .val (.int p2), .val (.int p3), .val (.int (0 : Int32)), .val (.int (own_b (¬ ((p0 &&& (2 : Int32)) = (0 : Int32))))), .val (.int (0 : Int32)), .val (.int mv), .val (.int nv), .val (.ref b11), .val (.int (own_b ((0 : Int32) < (0 : Int32)))), .val (.int (own_b (((own_pl (0 : Int32) nv) + mv) < (own_ps (0 : Int32) (0 : Int32) nv))))] [(.int nv), (.int ((0 : Int32) - mv)), (.int (own_b (((own_pl (0 : Int32) nv) + mv) < (own_ps (0 : Int32) (0 : Int32) nv))))])) _
          refine XS.isub X26.here hx rfl (hb hby at_188) rfl ?_
          exact kZ)
        have pre29 : ∀ tZ, Steps p.tables e below (T26.setTop (mkF m 197 #[.val (.int p0), .val (.int p1), .val (.int p2), .val (.int p3), .val (.int (0 : Int32)), .val (.int (own_b (¬ ((p0 &&& (2 : Int32)) = (0 : Int32))))), .val (.int (0 : Int32)), .val (.int mv), .val (.int nv), .val (.ref b11), .val (.int (own_b ((0 : Int32) < (0 : Int32)))), .val (.int (own_b (((own_pl (0 : Int32) nv) + mv) < (own_ps (0 : Int32) (0 : Int32) nv))))] [(.int (own_b ((0 : Int32) < (((0 : Int32) - mv) - nv)))), (.int (own_b (((own_pl (0 : Int32) nv) + mv) < (own_ps (0 : Int32) (0 : Int32) nv))))])) tZ → Steps p.tables e below (s₁.setTop (entryFrame m #[(.int p0), (.int p1), (.int p2), (.int p3)] maxLocals)) tZ := fun tZ kZ => pre27 tZ (by
          by_cases hc28 : (0 : Int32) < (((0 : Int32) - mv) - nv)
          ·  -- yes
            show Steps p.tables e below (T26.setTop (mkF m 189 #[.val (.int p0), .val (.int p1), .val (.int p2), .val (.int p3), .val (.int (0 : Int32)), .val (.int (own_b (¬ ((p0 &&& (2 : Int32)) = (0 : Int32))))), .val (.int (0 : Int32)), .val (.int mv), .val (.int nv), .val (.ref b11), .val (.int (own_b ((0 : Int32) < (0 : Int32)))), .val (.int (own_b (((own_pl (0 : Int32) nv) + mv) < (own_ps (0 : Int32) (0 : Int32) nv))))] [(.int (((0 : Int32) - mv) - nv)), (.int (own_b (((own_pl (0 : Int32) nv) + mv) < (own_ps (0 : Int32) (0 : Int32) nv))))])) _
            refine XS.ifNo X26.here hx rfl (hb hby at_189) rfl ((if0 _ _).trans (tlt hc28).2.2.2) ?_
            show Steps p.tables e below (T26.setTop (mkF m 192 #[.val (.int p0), .val (.int p1), .val (.int p2), .val (.int p3), .val (.int (0 : Int32)), .val (.int (own_b (¬ ((p0 &&& (2 : Int32)) = (0 : Int32))))), .val (.int (0 : Int32)), .val (.int mv), .val (.int nv), .val (.ref b11), .val (.int (own_b ((0 : Int32) < (0 : Int32)))), .val (.int (own_b (((own_pl (0 : Int32) nv) + mv) < (own_ps (0 : Int32) (0 : Int32) nv))))] [(.int (own_b (((own_pl (0 : Int32) nv) + mv) < (own_ps (0 : Int32) (0 : Int32) nv))))])) _
            refine XS.iconst X26.here hx rfl (hb hby at_192) ?_
            show Steps p.tables e below (T26.setTop (mkF m 193 #[.val (.int p0), .val (.int p1), .val (.int p2), .val (.int p3), .val (.int (0 : Int32)), .val (.int (own_b (¬ ((p0 &&& (2 : Int32)) = (0 : Int32))))), .val (.int (0 : Int32)), .val (.int mv), .val (.int nv), .val (.ref b11), .val (.int (own_b ((0 : Int32) < (0 : Int32)))), .val (.int (own_b (((own_pl (0 : Int32) nv) + mv) < (own_ps (0 : Int32) (0 : Int32) nv))))] [(.int (1 : Int32)), (.int (own_b (((own_pl (0 : Int32) nv) + mv) < (own_ps (0 : Int32) (0 : Int32) nv))))])) _
            refine XS.goto X26.here hx rfl (pc0 := 193) (pc' := 197) rfl (hb hby at_193) (by decide) (by decide) ?_
            have ekZ : (own_b ((0 : Int32) < (((0 : Int32) - mv) - nv))) = (1 : Int32) := by first | (simp only [own_b, eq_true hc28, and_true, true_and, and_false, false_and, or_true, true_or, or_false, false_or, not_true_eq_false, not_false_eq_true, if_true, if_false, reduceIte]; done) | (simp [own_b, hc28]; done)
            rw [ekZ] at kZ
            exact kZ
          ·  -- no
            show Steps p.tables e below (T26.setTop (mkF m 189 #[.val (.int p0), .val (.int p1), .val (.int p2), .val (.int p3), .val (.int (0 : Int32)), .val (.int (own_b (¬ ((p0 &&& (2 : Int32)) = (0 : Int32))))), .val (.int (0 : Int32)), .val (.int mv), .val (.int nv), .val (.ref b11), .val (.int (own_b ((0 : Int32) < (0 : Int32)))), .val (.int (own_b (((own_pl (0 : Int32) nv) + mv) < (own_ps (0 : Int32) (0 : Int32) nv))))] [(.int (((0 : Int32) - mv) - nv)), (.int (own_b (((own_pl (0 : Int32) nv) + mv) < (own_ps (0 : Int32) (0 : Int32) nv))))])) _
            refine XS.ifYes X26.here hx rfl (pc0 := 189) (pc' := 196) rfl (hb hby at_189) rfl ((if0 _ _).trans (flt hc28).2.2.2) (by decide) (by decide) ?_
            show Steps p.tables e below (T26.setTop (mkF m 196 #[.val (.int p0), .val (.int p1), .val (.int p2), .val (.int p3), .val (.int (0 : Int32)), .val (.int (own_b (¬ ((p0 &&& (2 : Int32)) = (0 : Int32))))), .val (.int (0 : Int32)), .val (.int mv), .val (.int nv), .val (.ref b11), .val (.int (own_b ((0 : Int32) < (0 : Int32)))), .val (.int (own_b (((own_pl (0 : Int32) nv) + mv) < (own_ps (0 : Int32) (0 : Int32) nv))))] [(.int (own_b (((own_pl (0 : Int32) nv) + mv) < (own_ps (0 : Int32) (0 : Int32) nv))))])) _
            refine XS.iconst X26.here hx rfl (hb hby at_196) ?_
            have ekZ : (own_b ((0 : Int32) < (((0 : Int32) - mv) - nv))) = (0 : Int32) := by first | (simp only [own_b, eq_false hc28, and_true, true_and, and_false, false_and, or_true, true_or, or_false, false_or, not_true_eq_false, not_false_eq_true, if_true, if_false, reduceIte]; done) | (simp [own_b, hc28]; done)
            rw [ekZ] at kZ
            exact kZ)
        obtain ⟨fsZ, hrZ, hrun, hended, hW, hsame⟩ := X26.leave (v := some (.int (1 : Int32))) (fun h => by rw [Bd.returns] at h; cases h)
        refine ⟨_, _, pre29 _ ?_, hrun, hended, _, _, rfl, ?_, ⟨_, rfl⟩, hW, hsame.mono (by decide) (by decide)⟩
        · show Steps p.tables e below (T26.setTop (mkF m 197 #[.val (.int p0), .val (.int p1), .val (.int p2), .val (.int p3), .val (.int (0 : Int32)), .val (.int (own_b (¬ ((p0 &&& (2 : Int32)) = (0 : Int32))))), .val (.int (0 : Int32)), .val (.int mv), .val (.int nv), .val (.ref b11), .val (.int (own_b ((0 : Int32) < (0 : Int32)))), .val (.int (own_b (((own_pl (0 : Int32) nv) + mv) < (own_ps (0 : Int32) (0 : Int32) nv))))] [(.int (own_b ((0 : Int32) < (((0 : Int32) - mv) - nv)))), (.int (own_b (((own_pl (0 : Int32) nv) + mv) < (own_ps (0 : Int32) (0 : Int32) nv))))])) _
          refine XS.icmpNo X26.here hx rfl (hb hby at_197) rfl (teq (own_fin_p (by decide) hm4 hn4 hm3.2.2 hn3.2.2)).2 ?_
          show Steps p.tables e below (T26.setTop (mkF m 200 #[.val (.int p0), .val (.int p1), .val (.int p2), .val (.int p3), .val (.int (0 : Int32)), .val (.int (own_b (¬ ((p0 &&& (2 : Int32)) = (0 : Int32))))), .val (.int (0 : Int32)), .val (.int mv), .val (.int nv), .val (.ref b11), .val (.int (own_b ((0 : Int32) < (0 : Int32)))), .val (.int (own_b (((own_pl (0 : Int32) nv) + mv) < (own_ps (0 : Int32) (0 : Int32) nv))))] [])) _
          refine XS.iconst X26.here hx rfl (hb hby at_200) ?_
          show Steps p.tables e below (T26.setTop (mkF m 201 #[.val (.int p0), .val (.int p1), .val (.int p2), .val (.int p3), .val (.int (0 : Int32)), .val (.int (own_b (¬ ((p0 &&& (2 : Int32)) = (0 : Int32))))), .val (.int (0 : Int32)), .val (.int mv), .val (.int nv), .val (.ref b11), .val (.int (own_b ((0 : Int32) < (0 : Int32)))), .val (.int (own_b (((own_pl (0 : Int32) nv) + mv) < (own_ps (0 : Int32) (0 : Int32) nv))))] [(.int (1 : Int32))])) _
          refine XS.goto X26.here hx rfl (pc0 := 201) (pc' := 205) rfl (hb hby at_201) (by decide) (by decide) ?_
          show Steps p.tables e below (T26.setTop (mkF m 205 #[.val (.int p0), .val (.int p1), .val (.int p2), .val (.int p3), .val (.int (0 : Int32)), .val (.int (own_b (¬ ((p0 &&& (2 : Int32)) = (0 : Int32))))), .val (.int (0 : Int32)), .val (.int mv), .val (.int nv), .val (.ref b11), .val (.int (own_b ((0 : Int32) < (0 : Int32)))), .val (.int (own_b (((own_pl (0 : Int32) nv) + mv) < (own_ps (0 : Int32) (0 : Int32) nv))))] [(.int (1 : Int32))])) _
          exact retN X26 hx (t := .boolean) Bd.returns (by simp) (hb hby at_205) hrZ
        · show Q0 Z p0 p1 p2 p3 h0 n0 _ T26.heap _
          rw [e26]
          exact ⟨rfl, N26⟩
      ·  -- no
        obtain ⟨_, _, ⟨T30, L30, k30, n30⟩, -, X30, ⟨Lc30, hQ30, l30, y30, z30⟩, st30⟩ := Jvm.LawKit.callS X18 hx (y := (⟨oL, "doMarks", "(Lcom/example/portunus/portunus/policy/Run;I)V"⟩ : MethodName)) hown (mvT hZ (ow hw 45 rfl)) (mvT hZ (ow hw 46 rfl)) (mvT hZ (ow hw 47 rfl)) (mvT hZ (ow hw 48 rfl)) (by decide) (backOf (W := 0) (rm8n l Z a0 hw [] b11 mv tk_14 (0 : Int32) (0 : Int32) (0 : Int32) kt_15 T13.heap n0 Z16 f13_0 f13_1 f13_2 f13_3 f13_4 f13_5 f13_6 gn_b11 u13_0 ne17 hm4) hZ (ow hw 48 rfl) (ow hw 47 rfl) (by decide) (by decide)) (g := (mkF m 147 #[.val (.int p0), .val (.int p1), .val (.int p2), .val (.int p3), .val (.int (0 : Int32)), .val (.int (own_b (¬ ((p0 &&& (2 : Int32)) = (0 : Int32))))), .val (.int (0 : Int32)), .val (.int mv), .val (.int nv), .val (.ref b11), .val (.int (own_b ((0 : Int32) < (0 : Int32)))), .unset] [(.int mv), (.ref b11)])) rfl (by rw [hml]; rfl) (argsL := [(.ref b11), (.int mv)]) (rest := []) (lenOf pd9 rfl) rfl (by show 2 * 0 + _ ≤ _; exact Nat.le_of_eq rfl) (hb hby at_147) (fun _ _ => ⟨rfl, e18, (by decide : 2 + 0 ≤ _), (by decide : 13 + 0 ≤ _)⟩)
        dsimp only [Pt.U, Pt.locs, Pt.cells, Pt.slots] at X30 l30 y30 z30 st30 hQ30
        subst l30 y30 z30
        obtain ⟨rfl, N30q, K30, f30_0, f30_1, f30_2, f30_3, f30_4, f30_5, f30_6⟩ := hQ30
        have N30 := Fr.app N18 N30q
        have Z31 : n0 ≤ T30.heap.size := Nat.le_trans Z16 K30.1
        obtain ⟨_, _, ⟨T32, L32, k32, n32⟩, -, X32, ⟨Lc32, hQ32, l32, y32, z32⟩, st32⟩ := Jvm.LawKit.callS X30 hx (y := (⟨oL, "doPolls", "(Lcom/example/portunus/portunus/policy/Run;I)V"⟩ : MethodName)) hown (mvT hZ (ow hw 54 rfl)) (mvT hZ (ow hw 55 rfl)) (mvT hZ (ow hw 47 rfl)) (mvT hZ (ow hw 56 rfl)) (by decide) (backOf (W := 0) (rm10n l Z a0 hw [] b11 nv tk_14 (0 : Int32) ((0 : Int32) + mv) (0 : Int32) kt_15 T30.heap n0 Z31 f30_0 f30_1 f30_2 f30_3 f30_4 f30_5 f30_6 gn_b11 u13_0 ne17 hn4 (own_nz1 hm4)) hZ (ow hw 56 rfl) (ow hw 47 rfl) (by decide) (by decide)) (g := (mkF m 154 #[.val (.int p0), .val (.int p1), .val (.int p2), .val (.int p3), .val (.int (0 : Int32)), .val (.int (own_b (¬ ((p0 &&& (2 : Int32)) = (0 : Int32))))), .val (.int (0 : Int32)), .val (.int mv), .val (.int nv), .val (.ref b11), .val (.int (own_b ((0 : Int32) < (0 : Int32)))), .unset] [(.int nv), (.ref b11)])) rfl (by rw [hml]; rfl) (argsL := [(.ref b11), (.int nv)]) (rest := []) (lenOf pd9 rfl) rfl (by show 2 * 0 + _ ≤ _; exact Nat.le_of_eq rfl) (hb hby at_154) (fun _ _ => ⟨rfl, rfl, (by decide : 2 + 0 ≤ _), (by decide : 13 + 0 ≤ _)⟩)
        dsimp only [Pt.U, Pt.locs, Pt.cells, Pt.slots] at X32 l32 y32 z32 st32 hQ32
        subst l32 y32 z32
        obtain ⟨fn_33, rfl, N32q, K32, f32_0, f32_1, f32_2, f32_3, f32_4, f32_5, f32_6⟩ := hQ32
        have N32 := Fr.app N30 N32q
        have Z34 : n0 ≤ T32.heap.size := Nat.le_trans Z31 K32.1
        obtain ⟨cq35, kq35, q35a, q35b, q35c⟩ := isOf hZ rfl f32_0
        obtain ⟨_, _, ⟨T35, L35, k35, n35⟩, -, X35, ⟨Lc35, hQ35, l35, y35, z35⟩, st35⟩ := X32.virtualBack hx (y := (⟨oR, "hasOther", "()Z"⟩ : MethodName)) (z := (⟨oR, "hasOther", "()Z"⟩ : MethodName)) hown (mvT hZ (ow hw 38 rfl)) (mvT hZ (ow hw 39 rfl)) (notFace_of_selects (args := #[]) (mvT hZ (ow hw 41 rfl))) (mvT hZ (ow hw 41 rfl)) (mvT hZ (ow hw 40 rfl)) (by decide) (backOf (W := 0) (rm7 l Z a0 hw [] b11 (own_ps ((0 : Int32) + mv) (0 : Int32) nv) (own_pl ((0 : Int32) + mv) nv) T32.heap n0 Z34 f32_3 f32_4) hZ (ow hw 42 rfl) (ow hw 7 rfl) (by decide) (by decide)) q35a q35c (g := (mkF m 159 #[.val (.int p0), .val (.int p1), .val (.int p2), .val (.int p3), .val (.int (0 : Int32)), .val (.int (own_b (¬ ((p0 &&& (2 : Int32)) = (0 : Int32))))), .val (.int (0 : Int32)), .val (.int mv), .val (.int nv), .val (.ref b11), .val (.int (own_b ((0 : Int32) < (0 : Int32)))), .unset] [(.ref b11)])) rfl (by rw [hml]; rfl) (Steps.refl _) (argsL := []) (rest := []) (lenOf pd8 rfl) rfl (by show 2 * 0 + _ ≤ _; exact Nat.le_of_eq rfl) (hb hby at_159) (fun _ _ => ⟨rfl, rfl, (by decide : 2 + 0 ≤ _), (by decide : 13 + 0 ≤ _)⟩)
        dsimp only [Pt.U, Pt.locs, Pt.cells, Pt.slots] at X35 l35 y35 z35 st35 hQ35
        subst l35 y35 z35
        obtain ⟨rfl, N35q, e35⟩ := hQ35
        have N35 := Fr.app N32 N35q
        have pre36 : ∀ tZ, Steps p.tables e below (T35.setTop (mkF m 189 #[.val (.int p0), .val (.int p1), .val (.int p2), .val (.int p3), .val (.int (0 : Int32)), .val (.int (own_b (¬ ((p0 &&& (2 : Int32)) = (0 : Int32))))), .val (.int (0 : Int32)), .val (.int mv), .val (.int nv), .val (.ref b11), .val (.int (own_b ((0 : Int32) < (0 : Int32)))), .val (.int (own_b ((own_pl ((0 : Int32) + mv) nv) < (own_ps ((0 : Int32) + mv) (0 : Int32) nv))))] [(.int (((0 : Int32) - mv) - nv)), (.int (own_b ((own_pl ((0 : Int32) + mv) nv) < (own_ps ((0 : Int32) + mv) (0 : Int32) nv))))])) tZ → Steps p.tables e below (s₁.setTop (entryFrame m #[(.int p0), (.int p1), (.int p2), (.int p3)] maxLocals)) tZ := fun tZ kZ => pre19 tZ (by
          show Steps p.tables e below (T18.setTop (mkF m 123 #[.val (.int p0), .val (.int p1), .val (.int p2), .val (.int p3), .val (.int (0 : Int32)), .val (.int (own_b (¬ ((p0 &&& (2 : Int32)) = (0 : Int32))))), .val (.int (0 : Int32)), .val (.int mv), .val (.int nv), .val (.ref b11), .val (.int (own_b ((0 : Int32) < (0 : Int32)))), .unset] [(.int (own_b (¬ ((p0 &&& (2 : Int32)) = (0 : Int32)))))])) _
          refine XS.ifYes X18.here hx rfl (pc0 := 123) (pc' := 143) rfl (hb hby at_123) rfl ((if0 _ _).trans (teq (own_b_f hc20)).1) (by decide) (by decide) ?_
          show Steps p.tables e below (T18.setTop (mkF m 143 #[.val (.int p0), .val (.int p1), .val (.int p2), .val (.int p3), .val (.int (0 : Int32)), .val (.int (own_b (¬ ((p0 &&& (2 : Int32)) = (0 : Int32))))), .val (.int (0 : Int32)), .val (.int mv), .val (.int nv), .val (.ref b11), .val (.int (own_b ((0 : Int32) < (0 : Int32)))), .unset] [])) _
          refine XS.aload X18.here hx rfl (hb hby at_143) rfl rfl ?_
          show Steps p.tables e below (T18.setTop (mkF m 145 #[.val (.int p0), .val (.int p1), .val (.int p2), .val (.int p3), .val (.int (0 : Int32)), .val (.int (own_b (¬ ((p0 &&& (2 : Int32)) = (0 : Int32))))), .val (.int (0 : Int32)), .val (.int mv), .val (.int nv), .val (.ref b11), .val (.int (own_b ((0 : Int32) < (0 : Int32)))), .unset] [(.ref b11)])) _
          refine XS.iload X18.here hx rfl (hb hby at_145) rfl  ?_
          show Steps p.tables e below (T18.setTop (mkF m 147 #[.val (.int p0), .val (.int p1), .val (.int p2), .val (.int p3), .val (.int (0 : Int32)), .val (.int (own_b (¬ ((p0 &&& (2 : Int32)) = (0 : Int32))))), .val (.int (0 : Int32)), .val (.int mv), .val (.int nv), .val (.ref b11), .val (.int (own_b ((0 : Int32) < (0 : Int32)))), .unset] [(.int mv), (.ref b11)])) _
          refine st30 _ ?_
          show Steps p.tables e below (T30.setTop (mkF m 150 #[.val (.int p0), .val (.int p1), .val (.int p2), .val (.int p3), .val (.int (0 : Int32)), .val (.int (own_b (¬ ((p0 &&& (2 : Int32)) = (0 : Int32))))), .val (.int (0 : Int32)), .val (.int mv), .val (.int nv), .val (.ref b11), .val (.int (own_b ((0 : Int32) < (0 : Int32)))), .unset] [])) _
          refine XS.aload X30.here hx rfl (hb hby at_150) rfl rfl ?_
          show Steps p.tables e below (T30.setTop (mkF m 152 #[.val (.int p0), .val (.int p1), .val (.int p2), .val (.int p3), .val (.int (0 : Int32)), .val (.int (own_b (¬ ((p0 &&& (2 : Int32)) = (0 : Int32))))), .val (.int (0 : Int32)), .val (.int mv), .val (.int nv), .val (.ref b11), .val (.int (own_b ((0 : Int32) < (0 : Int32)))), .unset] [(.ref b11)])) _
          refine XS.iload X30.here hx rfl (hb hby at_152) rfl  ?_
          show Steps p.tables e below (T30.setTop (mkF m 154 #[.val (.int p0), .val (.int p1), .val (.int p2), .val (.int p3), .val (.int (0 : Int32)), .val (.int (own_b (¬ ((p0 &&& (2 : Int32)) = (0 : Int32))))), .val (.int (0 : Int32)), .val (.int mv), .val (.int nv), .val (.ref b11), .val (.int (own_b ((0 : Int32) < (0 : Int32)))), .unset] [(.int nv), (.ref b11)])) _
          refine st32 _ ?_
          show Steps p.tables e below (T32.setTop (mkF m 157 #[.val (.int p0), .val (.int p1), .val (.int p2), .val (.int p3), .val (.int (0 : Int32)), .val (.int (own_b (¬ ((p0 &&& (2 : Int32)) = (0 : Int32))))), .val (.int (0 : Int32)), .val (.int mv), .val (.int nv), .val (.ref b11), .val (.int (own_b ((0 : Int32) < (0 : Int32)))), .unset] [])) _
          refine XS.aload X32.here hx rfl (hb hby at_157) rfl rfl ?_
          show Steps p.tables e below (T32.setTop (mkF m 159 #[.val (.int p0), .val (.int p1), .val (.int p2), .val (.int p3), .val (.int (0 : Int32)), .val (.int (own_b (¬ ((p0 &&& (2 : Int32)) = (0 : Int32))))), .val (.int (0 : Int32)), .val (.int mv), .val (.int nv), .val (.ref b11), .val (.int (own_b ((0 : Int32) < (0 : Int32)))), .unset] [(.ref b11)])) _
          refine st35.trans ?_
          show Steps p.tables e below (T35.setTop (mkF m 162 #[.val (.int p0), .val (.int p1), .val (.int p2), .val (.int p3), .val (.int (0 : Int32)), .val (.int (own_b (¬ ((p0 &&& (2 : Int32)) = (0 : Int32))))), .val (.int (0 : Int32)), .val (.int mv), .val (.int nv), .val (.ref b11), .val (.int (own_b ((0 : Int32) < (0 : Int32)))), .unset] [(.int (own_b ((own_pl ((0 : Int32) + mv) nv) < (own_ps ((0 : Int32) + mv) (0 : Int32) nv))))])) _
          refine XS.istore X35.here hx rfl (hb hby at_162) rfl (l' := #[.val (.int p0), .val (.int p1), .val (.int p2), .val (.int p3), .val (.int (0 : Int32)), .val (.int (own_b (¬ ((p0 &&& (2 : Int32)) = (0 : Int32))))), .val (.int (0 : Int32)), .val (.int mv), .val (.int nv), .val (.ref b11), .val (.int (own_b ((0 : Int32) < (0 : Int32)))), .val (.int (own_b ((own_pl ((0 : Int32) + mv) nv) < (own_ps ((0 : Int32) + mv) (0 : Int32) nv))))]) rfl ?_
          show Steps p.tables e below (T35.setTop (mkF m 164 #[.val (.int p0), .val (.int p1), .val (.int p2), .val (.int p3), .val (.int (0 : Int32)), .val (.int (own_b (¬ ((p0 &&& (2 : Int32)) = (0 : Int32))))), .val (.int (0 : Int32)), .val (.int mv), .val (.int nv), .val (.ref b11), .val (.int (own_b ((0 : Int32) < (0 : Int32)))), .val (.int (own_b ((own_pl ((0 : Int32) + mv) nv) < (own_ps ((0 : Int32) + mv) (0 : Int32) nv))))] [])) _
          refine XS.iload X35.here hx rfl (hb hby at_164) rfl  ?_
          show Steps p.tables e below (T35.setTop (mkF m 166 #[.val (.int p0), .val (.int p1), .val (.int p2), .val (.int p3), .val (.int (0 : Int32)), .val (.int (own_b (¬ ((p0 &&& (2 : Int32)) = (0 : Int32))))), .val (.int (0 : Int32)), .val (.int mv), .val (.int nv), .val (.ref b11), .val (.int (own_b ((0 : Int32) < (0 : Int32)))), .val (.int (own_b ((own_pl ((0 : Int32) + mv) nv) < (own_ps ((0 : Int32) + mv) (0 : Int32) nv))))] [(.int (own_b ((0 : Int32) < (0 : Int32))))])) _
          refine XS.iload X35.here hx rfl (hb hby at_166) rfl  ?_
          show Steps p.tables e below (T35.setTop (mkF m 168 #[.val (.int p0), .val (.int p1), .val (.int p2), .val (.int p3), .val (.int (0 : Int32)), .val (.int (own_b (¬ ((p0 &&& (2 : Int32)) = (0 : Int32))))), .val (.int (0 : Int32)), .val (.int mv), .val (.int nv), .val (.ref b11), .val (.int (own_b ((0 : Int32) < (0 : Int32)))), .val (.int (own_b ((own_pl ((0 : Int32) + mv) nv) < (own_ps ((0 : Int32) + mv) (0 : Int32) nv))))] [(.int (0 : Int32)), (.int (own_b ((0 : Int32) < (0 : Int32))))])) _
          refine XS.ifYes X35.here hx rfl (pc0 := 168) (pc' := 175) rfl (hb hby at_168) rfl ((if0 _ _).trans (flt (by decide)).2.2.2) (by decide) (by decide) ?_
          show Steps p.tables e below (T35.setTop (mkF m 175 #[.val (.int p0), .val (.int p1), .val (.int p2), .val (.int p3), .val (.int (0 : Int32)), .val (.int (own_b (¬ ((p0 &&& (2 : Int32)) = (0 : Int32))))), .val (.int (0 : Int32)), .val (.int mv), .val (.int nv), .val (.ref b11), .val (.int (own_b ((0 : Int32) < (0 : Int32)))), .val (.int (own_b ((own_pl ((0 : Int32) + mv) nv) < (own_ps ((0 : Int32) + mv) (0 : Int32) nv))))] [(.int (own_b ((0 : Int32) < (0 : Int32))))])) _
          refine XS.iconst X35.here hx rfl (hb hby at_175) ?_
          show Steps p.tables e below (T35.setTop (mkF m 176 #[.val (.int p0), .val (.int p1), .val (.int p2), .val (.int p3), .val (.int (0 : Int32)), .val (.int (own_b (¬ ((p0 &&& (2 : Int32)) = (0 : Int32))))), .val (.int (0 : Int32)), .val (.int mv), .val (.int nv), .val (.ref b11), .val (.int (own_b ((0 : Int32) < (0 : Int32)))), .val (.int (own_b ((own_pl ((0 : Int32) + mv) nv) < (own_ps ((0 : Int32) + mv) (0 : Int32) nv))))] [(.int (0 : Int32)), (.int (own_b ((0 : Int32) < (0 : Int32))))])) _
          refine XS.icmpNo X35.here hx rfl (hb hby at_176) rfl (teq (by decide)).2 ?_
          show Steps p.tables e below (T35.setTop (mkF m 179 #[.val (.int p0), .val (.int p1), .val (.int p2), .val (.int p3), .val (.int (0 : Int32)), .val (.int (own_b (¬ ((p0 &&& (2 : Int32)) = (0 : Int32))))), .val (.int (0 : Int32)), .val (.int mv), .val (.int nv), .val (.ref b11), .val (.int (own_b ((0 : Int32) < (0 : Int32)))), .val (.int (own_b ((own_pl ((0 : Int32) + mv) nv) < (own_ps ((0 : Int32) + mv) (0 : Int32) nv))))] [])) _
          refine XS.iload X35.here hx rfl (hb hby at_179) rfl  ?_
          show Steps p.tables e below (T35.setTop (mkF m 181 #[.val (.int p0), .val (.int p1), .val (.int p2), .val (.int p3), .val (.int (0 : Int32)), .val (.int (own_b (¬ ((p0 &&& (2 : Int32)) = (0 : Int32))))), .val (.int (0 : Int32)), .val (.int mv), .val (.int nv), .val (.ref b11), .val (.int (own_b ((0 : Int32) < (0 : Int32)))), .val (.int (own_b ((own_pl ((0 : Int32) + mv) nv) < (own_ps ((0 : Int32) + mv) (0 : Int32) nv))))] [(.int (own_b ((own_pl ((0 : Int32) + mv) nv) < (own_ps ((0 : Int32) + mv) (0 : Int32) nv))))])) _
          refine XS.iload X35.here hx rfl (hb hby at_181) rfl  ?_
          show Steps p.tables e below (T35.setTop (mkF m 183 #[.val (.int p0), .val (.int p1), .val (.int p2), .val (.int p3), .val (.int (0 : Int32)), .val (.int (own_b (¬ ((p0 &&& (2 : Int32)) = (0 : Int32))))), .val (.int (0 : Int32)), .val (.int mv), .val (.int nv), .val (.ref b11), .val (.int (own_b ((0 : Int32) < (0 : Int32)))), .val (.int (own_b ((own_pl ((0 : Int32) + mv) nv) < (own_ps ((0 : Int32) + mv) (0 : Int32) nv))))] [(.int (0 : Int32)), (.int (own_b ((own_pl ((0 : Int32) + mv) nv) < (own_ps ((0 : Int32) + mv) (0 : Int32) nv))))])) _
          refine XS.iload X35.here hx rfl (hb hby at_183) rfl  ?_
          show Steps p.tables e below (T35.setTop (mkF m 185 #[.val (.int p0), .val (.int p1), .val (.int p2), .val (.int p3), .val (.int (0 : Int32)), .val (.int (own_b (¬ ((p0 &&& (2 : Int32)) = (0 : Int32))))), .val (.int (0 : Int32)), .val (.int mv), .val (.int nv), .val (.ref b11), .val (.int (own_b ((0 : Int32) < (0 : Int32)))), .val (.int (own_b ((own_pl ((0 : Int32) + mv) nv) < (own_ps ((0 : Int32) + mv) (0 : Int32) nv))))] [(.int mv), (.int (0 : Int32)), (.int (own_b ((own_pl ((0 : Int32) + mv) nv) < (own_ps ((0 : Int32) + mv) (0 : Int32) nv))))])) _
          refine XS.isub X35.here hx rfl (hb hby at_185) rfl ?_
          show Steps p.tables e below (T35.setTop (mkF m 186 #[.val (.int p0), .val (.int p1), .val (.int p2), .val (.int p3), .val (.int (0 : Int32)), .val (.int (own_b (¬ ((p0 &&& (2 : Int32)) = (0 : Int32))))), .val (.int (0 : Int32)), .val (.int mv), .val (.int nv), .val (.ref b11), .val (.int (own_b ((0 : Int32) < (0 : Int32)))), .val (.int (own_b ((own_pl ((0 : Int32) + mv) nv) < (own_ps ((0 : Int32) + mv) (0 : Int32) nv))))] [(.int ((0 : Int32) - mv)), (.int (own_b ((own_pl ((0 : Int32) + mv) nv) < (own_ps ((0 : Int32) + mv) (0 : Int32) nv))))])) _
          refine XS.iload X35.here hx rfl (hb hby at_186) rfl  ?_
          show Steps p.tables e below (T35.setTop (mkF m 188 #[.val (.int p0), .val (.int p1), .val (.int p2), .val (.int p3), .val (.int (0 : Int32)), .val (.int (own_b (¬ ((p0 &&& (2 : Int32)) = (0 : Int32))))), .val (.int (0 : Int32)), .val (.int mv), .val (.int nv), .val (.ref b11), .val (.int (own_b ((0 : Int32) < (0 : Int32)))), .val (.int (own_b ((own_pl ((0 : Int32) + mv) nv) < (own_ps ((0 : Int32) + mv) (0 : Int32) nv))))] [(.int nv), (.int ((0 : Int32) - mv)), (.int (own_b ((own_pl ((0 : Int32) + mv) nv) < (own_ps ((0 : Int32) + mv) (0 : Int32) nv))))])) _
          refine XS.isub X35.here hx rfl (hb hby at_188) rfl ?_
          exact kZ)
        have pre38 : ∀ tZ, Steps p.tables e below (T35.setTop (mkF m 197 #[.val (.int p0), .val (.int p1), .val (.int p2), .val (.int p3), .val (.int (0 : Int32)), .val (.int (own_b (¬ ((p0 &&& (2 : Int32)) = (0 : Int32))))), .val (.int (0 : Int32)), .val (.int mv), .val (.int nv), .val (.ref b11), .val (.int (own_b ((0 : Int32) < (0 : Int32)))), .val (.int (own_b ((own_pl ((0 : Int32) + mv) nv) < (own_ps ((0 : Int32) + mv) (0 : Int32) nv))))] [(.int (own_b ((0 : Int32) < (((0 : Int32) - mv) - nv)))), (.int (own_b ((own_pl ((0 : Int32) + mv) nv) < (own_ps ((0 : Int32) + mv) (0 : Int32) nv))))])) tZ → Steps p.tables e below (s₁.setTop (entryFrame m #[(.int p0), (.int p1), (.int p2), (.int p3)] maxLocals)) tZ := fun tZ kZ => pre36 tZ (by
          by_cases hc37 : (0 : Int32) < (((0 : Int32) - mv) - nv)
          ·  -- yes
            show Steps p.tables e below (T35.setTop (mkF m 189 #[.val (.int p0), .val (.int p1), .val (.int p2), .val (.int p3), .val (.int (0 : Int32)), .val (.int (own_b (¬ ((p0 &&& (2 : Int32)) = (0 : Int32))))), .val (.int (0 : Int32)), .val (.int mv), .val (.int nv), .val (.ref b11), .val (.int (own_b ((0 : Int32) < (0 : Int32)))), .val (.int (own_b ((own_pl ((0 : Int32) + mv) nv) < (own_ps ((0 : Int32) + mv) (0 : Int32) nv))))] [(.int (((0 : Int32) - mv) - nv)), (.int (own_b ((own_pl ((0 : Int32) + mv) nv) < (own_ps ((0 : Int32) + mv) (0 : Int32) nv))))])) _
            refine XS.ifNo X35.here hx rfl (hb hby at_189) rfl ((if0 _ _).trans (tlt hc37).2.2.2) ?_
            show Steps p.tables e below (T35.setTop (mkF m 192 #[.val (.int p0), .val (.int p1), .val (.int p2), .val (.int p3), .val (.int (0 : Int32)), .val (.int (own_b (¬ ((p0 &&& (2 : Int32)) = (0 : Int32))))), .val (.int (0 : Int32)), .val (.int mv), .val (.int nv), .val (.ref b11), .val (.int (own_b ((0 : Int32) < (0 : Int32)))), .val (.int (own_b ((own_pl ((0 : Int32) + mv) nv) < (own_ps ((0 : Int32) + mv) (0 : Int32) nv))))] [(.int (own_b ((own_pl ((0 : Int32) + mv) nv) < (own_ps ((0 : Int32) + mv) (0 : Int32) nv))))])) _
            refine XS.iconst X35.here hx rfl (hb hby at_192) ?_
            show Steps p.tables e below (T35.setTop (mkF m 193 #[.val (.int p0), .val (.int p1), .val (.int p2), .val (.int p3), .val (.int (0 : Int32)), .val (.int (own_b (¬ ((p0 &&& (2 : Int32)) = (0 : Int32))))), .val (.int (0 : Int32)), .val (.int mv), .val (.int nv), .val (.ref b11), .val (.int (own_b ((0 : Int32) < (0 : Int32)))), .val (.int (own_b ((own_pl ((0 : Int32) + mv) nv) < (own_ps ((0 : Int32) + mv) (0 : Int32) nv))))] [(.int (1 : Int32)), (.int (own_b ((own_pl ((0 : Int32) + mv) nv) < (own_ps ((0 : Int32) + mv) (0 : Int32) nv))))])) _
            refine XS.goto X35.here hx rfl (pc0 := 193) (pc' := 197) rfl (hb hby at_193) (by decide) (by decide) ?_
            have ekZ : (own_b ((0 : Int32) < (((0 : Int32) - mv) - nv))) = (1 : Int32) := by first | (simp only [own_b, eq_true hc37, and_true, true_and, and_false, false_and, or_true, true_or, or_false, false_or, not_true_eq_false, not_false_eq_true, if_true, if_false, reduceIte]; done) | (simp [own_b, hc37]; done)
            rw [ekZ] at kZ
            exact kZ
          ·  -- no
            show Steps p.tables e below (T35.setTop (mkF m 189 #[.val (.int p0), .val (.int p1), .val (.int p2), .val (.int p3), .val (.int (0 : Int32)), .val (.int (own_b (¬ ((p0 &&& (2 : Int32)) = (0 : Int32))))), .val (.int (0 : Int32)), .val (.int mv), .val (.int nv), .val (.ref b11), .val (.int (own_b ((0 : Int32) < (0 : Int32)))), .val (.int (own_b ((own_pl ((0 : Int32) + mv) nv) < (own_ps ((0 : Int32) + mv) (0 : Int32) nv))))] [(.int (((0 : Int32) - mv) - nv)), (.int (own_b ((own_pl ((0 : Int32) + mv) nv) < (own_ps ((0 : Int32) + mv) (0 : Int32) nv))))])) _
            refine XS.ifYes X35.here hx rfl (pc0 := 189) (pc' := 196) rfl (hb hby at_189) rfl ((if0 _ _).trans (flt hc37).2.2.2) (by decide) (by decide) ?_
            show Steps p.tables e below (T35.setTop (mkF m 196 #[.val (.int p0), .val (.int p1), .val (.int p2), .val (.int p3), .val (.int (0 : Int32)), .val (.int (own_b (¬ ((p0 &&& (2 : Int32)) = (0 : Int32))))), .val (.int (0 : Int32)), .val (.int mv), .val (.int nv), .val (.ref b11), .val (.int (own_b ((0 : Int32) < (0 : Int32)))), .val (.int (own_b ((own_pl ((0 : Int32) + mv) nv) < (own_ps ((0 : Int32) + mv) (0 : Int32) nv))))] [(.int (own_b ((own_pl ((0 : Int32) + mv) nv) < (own_ps ((0 : Int32) + mv) (0 : Int32) nv))))])) _
            refine XS.iconst X35.here hx rfl (hb hby at_196) ?_
            have ekZ : (own_b ((0 : Int32) < (((0 : Int32) - mv) - nv))) = (0 : Int32) := by first | (simp only [own_b, eq_false hc37, and_true, true_and, and_false, false_and, or_true, true_or, or_false, false_or, not_true_eq_false, not_false_eq_true, if_true, if_false, reduceIte]; done) | (simp [own_b, hc37]; done)
            rw [ekZ] at kZ
            exact kZ)
        obtain ⟨fsZ, hrZ, hrun, hended, hW, hsame⟩ := X35.leave (v := some (.int (1 : Int32))) (fun h => by rw [Bd.returns] at h; cases h)
        refine ⟨_, _, pre38 _ ?_, hrun, hended, _, _, rfl, ?_, ⟨_, rfl⟩, hW, hsame.mono (by decide) (by decide)⟩
        · show Steps p.tables e below (T35.setTop (mkF m 197 #[.val (.int p0), .val (.int p1), .val (.int p2), .val (.int p3), .val (.int (0 : Int32)), .val (.int (own_b (¬ ((p0 &&& (2 : Int32)) = (0 : Int32))))), .val (.int (0 : Int32)), .val (.int mv), .val (.int nv), .val (.ref b11), .val (.int (own_b ((0 : Int32) < (0 : Int32)))), .val (.int (own_b ((own_pl ((0 : Int32) + mv) nv) < (own_ps ((0 : Int32) + mv) (0 : Int32) nv))))] [(.int (own_b ((0 : Int32) < (((0 : Int32) - mv) - nv)))), (.int (own_b ((own_pl ((0 : Int32) + mv) nv) < (own_ps ((0 : Int32) + mv) (0 : Int32) nv))))])) _
          refine XS.icmpNo X35.here hx rfl (hb hby at_197) rfl (teq (own_fin_m (by decide) hm4 hn4 hm3.2.2 hn3.2.2)).2 ?_
          show Steps p.tables e below (T35.setTop (mkF m 200 #[.val (.int p0), .val (.int p1), .val (.int p2), .val (.int p3), .val (.int (0 : Int32)), .val (.int (own_b (¬ ((p0 &&& (2 : Int32)) = (0 : Int32))))), .val (.int (0 : Int32)), .val (.int mv), .val (.int nv), .val (.ref b11), .val (.int (own_b ((0 : Int32) < (0 : Int32)))), .val (.int (own_b ((own_pl ((0 : Int32) + mv) nv) < (own_ps ((0 : Int32) + mv) (0 : Int32) nv))))] [])) _
          refine XS.iconst X35.here hx rfl (hb hby at_200) ?_
          show Steps p.tables e below (T35.setTop (mkF m 201 #[.val (.int p0), .val (.int p1), .val (.int p2), .val (.int p3), .val (.int (0 : Int32)), .val (.int (own_b (¬ ((p0 &&& (2 : Int32)) = (0 : Int32))))), .val (.int (0 : Int32)), .val (.int mv), .val (.int nv), .val (.ref b11), .val (.int (own_b ((0 : Int32) < (0 : Int32)))), .val (.int (own_b ((own_pl ((0 : Int32) + mv) nv) < (own_ps ((0 : Int32) + mv) (0 : Int32) nv))))] [(.int (1 : Int32))])) _
          refine XS.goto X35.here hx rfl (pc0 := 201) (pc' := 205) rfl (hb hby at_201) (by decide) (by decide) ?_
          show Steps p.tables e below (T35.setTop (mkF m 205 #[.val (.int p0), .val (.int p1), .val (.int p2), .val (.int p3), .val (.int (0 : Int32)), .val (.int (own_b (¬ ((p0 &&& (2 : Int32)) = (0 : Int32))))), .val (.int (0 : Int32)), .val (.int mv), .val (.int nv), .val (.ref b11), .val (.int (own_b ((0 : Int32) < (0 : Int32)))), .val (.int (own_b ((own_pl ((0 : Int32) + mv) nv) < (own_ps ((0 : Int32) + mv) (0 : Int32) nv))))] [(.int (1 : Int32))])) _
          exact retN X35 hx (t := .boolean) Bd.returns (by simp) (hb hby at_205) hrZ
        · show Q0 Z p0 p1 p2 p3 h0 n0 _ T35.heap _
          rw [e35]
          exact ⟨rfl, N35⟩
    ·  -- a = 1
      obtain ⟨_, _, ⟨T39, L39, k39, n39⟩, -, X39, ⟨Lc39, hQ39, l39, y39, z39⟩, st39⟩ := Jvm.LawKit.callS X0 hx (y := (⟨"java/lang/Math", "min", "(II)I"⟩ : MethodName)) hown (mvT hZ (ow hw 1 rfl)) (mvT hZ (ow hw 2 rfl)) (mvT hZ (ow hw 3 rfl)) (mvT hZ (ow hw 4 rfl)) (by decide) (backOf (W := 0) (rm1 l Z a0 hw [] ((p2 &&& (2147483647 : Int32)) % (3 : Int32)) (1 : Int32) h0 n0 Z0 ) hZ (ow hw 4 rfl) (ow hw 3 rfl) (by decide) (by decide)) (g := (mkF m 39 #[.val (.int p0), .val (.int p1), .val (.int p2), .val (.int p3), .val (.int (0 : Int32)), .val (.int (own_b (¬ ((p0 &&& (2 : Int32)) = (0 : Int32))))), .val (.int (1 : Int32)), .unset, .unset, .unset, .unset, .unset] [(.int (1 : Int32)), (.int ((p2 &&& (2147483647 : Int32)) % (3 : Int32)))])) rfl (by rw [hml]; rfl) (argsL := [(.int ((p2 &&& (2147483647 : Int32)) % (3 : Int32))), (.int (1 : Int32))]) (rest := []) (lenOf pd6 rfl) rfl (by show 2 * 0 + _ ≤ _; exact Nat.le_of_eq rfl) (hb hby at_39) (fun _ _ => ⟨rfl, e0, (by decide : 0 + 0 ≤ _), (by decide : 0 + 0 ≤ _)⟩)
      dsimp only [Pt.U, Pt.locs, Pt.cells, Pt.slots] at X39 l39 y39 z39 st39 hQ39
      subst l39 y39 z39
      obtain ⟨rfl, N39q, e39⟩ := hQ39
      have N39 := Fr.app N0 N39q
      have pre40 : ∀ tZ, Steps p.tables e below (T39.setTop (mkF m 44 #[.val (.int p0), .val (.int p1), .val (.int p2), .val (.int p3), .val (.int (0 : Int32)), .val (.int (own_b (¬ ((p0 &&& (2 : Int32)) = (0 : Int32))))), .val (.int (1 : Int32)), .val (.int (if (1 : Int32) < ((p2 &&& (2147483647 : Int32)) % (3 : Int32)) then (1 : Int32) else ((p2 &&& (2147483647 : Int32)) % (3 : Int32)))), .unset, .unset, .unset, .unset] [])) tZ → Steps p.tables e below (s₁.setTop (entryFrame m #[(.int p0), (.int p1), (.int p2), (.int p3)] maxLocals)) tZ := fun tZ kZ => pre6 tZ (by
        show Steps p.tables e below (s₁.setTop (mkF m 31 #[.val (.int p0), .val (.int p1), .val (.int p2), .val (.int p3), .val (.int (0 : Int32)), .val (.int (own_b (¬ ((p0 &&& (2 : Int32)) = (0 : Int32))))), .val (.int (1 : Int32)), .unset, .unset, .unset, .unset, .unset] [])) _
        refine XS.iloadN X0.here hx rfl (hb hby at_31) rfl  ?_
        show Steps p.tables e below (s₁.setTop (mkF m 32 #[.val (.int p0), .val (.int p1), .val (.int p2), .val (.int p3), .val (.int (0 : Int32)), .val (.int (own_b (¬ ((p0 &&& (2 : Int32)) = (0 : Int32))))), .val (.int (1 : Int32)), .unset, .unset, .unset, .unset, .unset] [(.int p2)])) _
        refine X0.ldcInt hx hown (mvT hZ (ow hw 0 rfl)) (g := (mkF m 32 #[.val (.int p0), .val (.int p1), .val (.int p2), .val (.int p3), .val (.int (0 : Int32)), .val (.int (own_b (¬ ((p0 &&& (2 : Int32)) = (0 : Int32))))), .val (.int (1 : Int32)), .unset, .unset, .unset, .unset, .unset] [(.int p2)])) rfl (hb hby at_32) _ ?_
        show Steps p.tables e below (s₁.setTop (mkF m 34 #[.val (.int p0), .val (.int p1), .val (.int p2), .val (.int p3), .val (.int (0 : Int32)), .val (.int (own_b (¬ ((p0 &&& (2 : Int32)) = (0 : Int32))))), .val (.int (1 : Int32)), .unset, .unset, .unset, .unset, .unset] [(.int (2147483647 : Int32)), (.int p2)])) _
        refine XS.iand X0.here hx rfl (hb hby at_34) rfl ?_
        show Steps p.tables e below (s₁.setTop (mkF m 35 #[.val (.int p0), .val (.int p1), .val (.int p2), .val (.int p3), .val (.int (0 : Int32)), .val (.int (own_b (¬ ((p0 &&& (2 : Int32)) = (0 : Int32))))), .val (.int (1 : Int32)), .unset, .unset, .unset, .unset, .unset] [(.int (p2 &&& (2147483647 : Int32)))])) _
        refine XS.iconst X0.here hx rfl (hb hby at_35) ?_
        show Steps p.tables e below (s₁.setTop (mkF m 36 #[.val (.int p0), .val (.int p1), .val (.int p2), .val (.int p3), .val (.int (0 : Int32)), .val (.int (own_b (¬ ((p0 &&& (2 : Int32)) = (0 : Int32))))), .val (.int (1 : Int32)), .unset, .unset, .unset, .unset, .unset] [(.int (3 : Int32)), (.int (p2 &&& (2147483647 : Int32)))])) _
        refine iremM X0 hx rfl (hb hby at_36) rfl (by decide) ?_
        show Steps p.tables e below (s₁.setTop (mkF m 37 #[.val (.int p0), .val (.int p1), .val (.int p2), .val (.int p3), .val (.int (0 : Int32)), .val (.int (own_b (¬ ((p0 &&& (2 : Int32)) = (0 : Int32))))), .val (.int (1 : Int32)), .unset, .unset, .unset, .unset, .unset] [(.int ((p2 &&& (2147483647 : Int32)) % (3 : Int32)))])) _
        refine XS.iload X0.here hx rfl (hb hby at_37) rfl  ?_
        show Steps p.tables e below (s₁.setTop (mkF m 39 #[.val (.int p0), .val (.int p1), .val (.int p2), .val (.int p3), .val (.int (0 : Int32)), .val (.int (own_b (¬ ((p0 &&& (2 : Int32)) = (0 : Int32))))), .val (.int (1 : Int32)), .unset, .unset, .unset, .unset, .unset] [(.int (1 : Int32)), (.int ((p2 &&& (2147483647 : Int32)) % (3 : Int32)))])) _
        refine st39 _ ?_
        show Steps p.tables e below (T39.setTop (mkF m 42 #[.val (.int p0), .val (.int p1), .val (.int p2), .val (.int p3), .val (.int (0 : Int32)), .val (.int (own_b (¬ ((p0 &&& (2 : Int32)) = (0 : Int32))))), .val (.int (1 : Int32)), .unset, .unset, .unset, .unset, .unset] [(.int (if (1 : Int32) < ((p2 &&& (2147483647 : Int32)) % (3 : Int32)) then (1 : Int32) else ((p2 &&& (2147483647 : Int32)) % (3 : Int32))))])) _
        refine XS.istore X39.here hx rfl (hb hby at_42) rfl (l' := #[.val (.int p0), .val (.int p1), .val (.int p2), .val (.int p3), .val (.int (0 : Int32)), .val (.int (own_b (¬ ((p0 &&& (2 : Int32)) = (0 : Int32))))), .val (.int (1 : Int32)), .val (.int (if (1 : Int32) < ((p2 &&& (2147483647 : Int32)) % (3 : Int32)) then (1 : Int32) else ((p2 &&& (2147483647 : Int32)) % (3 : Int32)))), .unset, .unset, .unset, .unset]) rfl ?_
        exact kZ)
      obtain ⟨mv, hmv⟩ : ∃ z, z = (if (1 : Int32) < ((p2 &&& (2147483647 : Int32)) % (3 : Int32)) then (1 : Int32) else ((p2 &&& (2147483647 : Int32)) % (3 : Int32))) := ⟨_, rfl⟩
      rw [← hmv] at pre40
      have hm3 := own_min hmv (own_rem p2) (by decide)
      have hm4 := own_c3 hm3.1 hm3.2.1
      obtain ⟨_, _, ⟨T41, L41, k41, n41⟩, -, X41, ⟨Lc41, hQ41, l41, y41, z41⟩, st41⟩ := Jvm.LawKit.callS X39 hx (y := (⟨"java/lang/Math", "min", "(II)I"⟩ : MethodName)) hown (mvT hZ (ow hw 1 rfl)) (mvT hZ (ow hw 2 rfl)) (mvT hZ (ow hw 3 rfl)) (mvT hZ (ow hw 4 rfl)) (by decide) (backOf (W := 0) (rm1 l Z a0 hw [] ((p3 &&& (2147483647 : Int32)) % (3 : Int32)) ((1 : Int32) - mv) h0 n0 Z0 ) hZ (ow hw 4 rfl) (ow hw 3 rfl) (by decide) (by decide)) (g := (mkF m 55 #[.val (.int p0), .val (.int p1), .val (.int p2), .val (.int p3), .val (.int (0 : Int32)), .val (.int (own_b (¬ ((p0 &&& (2 : Int32)) = (0 : Int32))))), .val (.int (1 : Int32)), .val (.int mv), .unset, .unset, .unset, .unset] [(.int ((1 : Int32) - mv)), (.int ((p3 &&& (2147483647 : Int32)) % (3 : Int32)))])) rfl (by rw [hml]; rfl) (argsL := [(.int ((p3 &&& (2147483647 : Int32)) % (3 : Int32))), (.int ((1 : Int32) - mv))]) (rest := []) (lenOf pd6 rfl) rfl (by show 2 * 0 + _ ≤ _; exact Nat.le_of_eq rfl) (hb hby at_55) (fun _ _ => ⟨rfl, e39, (by decide : 0 + 0 ≤ _), (by decide : 0 + 0 ≤ _)⟩)
      dsimp only [Pt.U, Pt.locs, Pt.cells, Pt.slots] at X41 l41 y41 z41 st41 hQ41
      subst l41 y41 z41
      obtain ⟨rfl, N41q, e41⟩ := hQ41
      have N41 := Fr.app N39 N41q
      have pre42 : ∀ tZ, Steps p.tables e below (T41.setTop (mkF m 60 #[.val (.int p0), .val (.int p1), .val (.int p2), .val (.int p3), .val (.int (0 : Int32)), .val (.int (own_b (¬ ((p0 &&& (2 : Int32)) = (0 : Int32))))), .val (.int (1 : Int32)), .val (.int mv), .val (.int (if ((1 : Int32) - mv) < ((p3 &&& (2147483647 : Int32)) % (3 : Int32)) then ((1 : Int32) - mv) else ((p3 &&& (2147483647 : Int32)) % (3 : Int32)))), .unset, .unset, .unset] [])) tZ → Steps p.tables e below (s₁.setTop (entryFrame m #[(.int p0), (.int p1), (.int p2), (.int p3)] maxLocals)) tZ := fun tZ kZ => pre40 tZ (by
        show Steps p.tables e below (T39.setTop (mkF m 44 #[.val (.int p0), .val (.int p1), .val (.int p2), .val (.int p3), .val (.int (0 : Int32)), .val (.int (own_b (¬ ((p0 &&& (2 : Int32)) = (0 : Int32))))), .val (.int (1 : Int32)), .val (.int mv), .unset, .unset, .unset, .unset] [])) _
        refine XS.iloadN X39.here hx rfl (hb hby at_44) rfl  ?_
        show Steps p.tables e below (T39.setTop (mkF m 45 #[.val (.int p0), .val (.int p1), .val (.int p2), .val (.int p3), .val (.int (0 : Int32)), .val (.int (own_b (¬ ((p0 &&& (2 : Int32)) = (0 : Int32))))), .val (.int (1 : Int32)), .val (.int mv), .unset, .unset, .unset, .unset] [(.int p3)])) _
        refine X39.ldcInt hx hown (mvT hZ (ow hw 0 rfl)) (g := (mkF m 45 #[.val (.int p0), .val (.int p1), .val (.int p2), .val (.int p3), .val (.int (0 : Int32)), .val (.int (own_b (¬ ((p0 &&& (2 : Int32)) = (0 : Int32))))), .val (.int (1 : Int32)), .val (.int mv), .unset, .unset, .unset, .unset] [(.int p3)])) rfl (hb hby at_45) _ ?_
        show Steps p.tables e below (T39.setTop (mkF m 47 #[.val (.int p0), .val (.int p1), .val (.int p2), .val (.int p3), .val (.int (0 : Int32)), .val (.int (own_b (¬ ((p0 &&& (2 : Int32)) = (0 : Int32))))), .val (.int (1 : Int32)), .val (.int mv), .unset, .unset, .unset, .unset] [(.int (2147483647 : Int32)), (.int p3)])) _
        refine XS.iand X39.here hx rfl (hb hby at_47) rfl ?_
        show Steps p.tables e below (T39.setTop (mkF m 48 #[.val (.int p0), .val (.int p1), .val (.int p2), .val (.int p3), .val (.int (0 : Int32)), .val (.int (own_b (¬ ((p0 &&& (2 : Int32)) = (0 : Int32))))), .val (.int (1 : Int32)), .val (.int mv), .unset, .unset, .unset, .unset] [(.int (p3 &&& (2147483647 : Int32)))])) _
        refine XS.iconst X39.here hx rfl (hb hby at_48) ?_
        show Steps p.tables e below (T39.setTop (mkF m 49 #[.val (.int p0), .val (.int p1), .val (.int p2), .val (.int p3), .val (.int (0 : Int32)), .val (.int (own_b (¬ ((p0 &&& (2 : Int32)) = (0 : Int32))))), .val (.int (1 : Int32)), .val (.int mv), .unset, .unset, .unset, .unset] [(.int (3 : Int32)), (.int (p3 &&& (2147483647 : Int32)))])) _
        refine iremM X39 hx rfl (hb hby at_49) rfl (by decide) ?_
        show Steps p.tables e below (T39.setTop (mkF m 50 #[.val (.int p0), .val (.int p1), .val (.int p2), .val (.int p3), .val (.int (0 : Int32)), .val (.int (own_b (¬ ((p0 &&& (2 : Int32)) = (0 : Int32))))), .val (.int (1 : Int32)), .val (.int mv), .unset, .unset, .unset, .unset] [(.int ((p3 &&& (2147483647 : Int32)) % (3 : Int32)))])) _
        refine XS.iload X39.here hx rfl (hb hby at_50) rfl  ?_
        show Steps p.tables e below (T39.setTop (mkF m 52 #[.val (.int p0), .val (.int p1), .val (.int p2), .val (.int p3), .val (.int (0 : Int32)), .val (.int (own_b (¬ ((p0 &&& (2 : Int32)) = (0 : Int32))))), .val (.int (1 : Int32)), .val (.int mv), .unset, .unset, .unset, .unset] [(.int (1 : Int32)), (.int ((p3 &&& (2147483647 : Int32)) % (3 : Int32)))])) _
        refine XS.iload X39.here hx rfl (hb hby at_52) rfl  ?_
        show Steps p.tables e below (T39.setTop (mkF m 54 #[.val (.int p0), .val (.int p1), .val (.int p2), .val (.int p3), .val (.int (0 : Int32)), .val (.int (own_b (¬ ((p0 &&& (2 : Int32)) = (0 : Int32))))), .val (.int (1 : Int32)), .val (.int mv), .unset, .unset, .unset, .unset] [(.int mv), (.int (1 : Int32)), (.int ((p3 &&& (2147483647 : Int32)) % (3 : Int32)))])) _
        refine XS.isub X39.here hx rfl (hb hby at_54) rfl ?_
        show Steps p.tables e below (T39.setTop (mkF m 55 #[.val (.int p0), .val (.int p1), .val (.int p2), .val (.int p3), .val (.int (0 : Int32)), .val (.int (own_b (¬ ((p0 &&& (2 : Int32)) = (0 : Int32))))), .val (.int (1 : Int32)), .val (.int mv), .unset, .unset, .unset, .unset] [(.int ((1 : Int32) - mv)), (.int ((p3 &&& (2147483647 : Int32)) % (3 : Int32)))])) _
        refine st41 _ ?_
        show Steps p.tables e below (T41.setTop (mkF m 58 #[.val (.int p0), .val (.int p1), .val (.int p2), .val (.int p3), .val (.int (0 : Int32)), .val (.int (own_b (¬ ((p0 &&& (2 : Int32)) = (0 : Int32))))), .val (.int (1 : Int32)), .val (.int mv), .unset, .unset, .unset, .unset] [(.int (if ((1 : Int32) - mv) < ((p3 &&& (2147483647 : Int32)) % (3 : Int32)) then ((1 : Int32) - mv) else ((p3 &&& (2147483647 : Int32)) % (3 : Int32))))])) _
        refine XS.istore X41.here hx rfl (hb hby at_58) rfl (l' := #[.val (.int p0), .val (.int p1), .val (.int p2), .val (.int p3), .val (.int (0 : Int32)), .val (.int (own_b (¬ ((p0 &&& (2 : Int32)) = (0 : Int32))))), .val (.int (1 : Int32)), .val (.int mv), .val (.int (if ((1 : Int32) - mv) < ((p3 &&& (2147483647 : Int32)) % (3 : Int32)) then ((1 : Int32) - mv) else ((p3 &&& (2147483647 : Int32)) % (3 : Int32)))), .unset, .unset, .unset]) rfl ?_
        exact kZ)
      obtain ⟨nv, hnv⟩ : ∃ z, z = (if ((1 : Int32) - mv) < ((p3 &&& (2147483647 : Int32)) % (3 : Int32)) then ((1 : Int32) - mv) else ((p3 &&& (2147483647 : Int32)) % (3 : Int32))) := ⟨_, rfl⟩
      rw [← hnv] at pre42
      have hn3 := own_min hnv (own_rem p3) (own_nn hm4 hm3.2.2 (by decide))
      have hn4 := own_c3 hn3.1 hn3.2.1
      obtain ⟨T43, h43, X43, e43, E43, A43, D43, -, st43⟩ := newO X41 hx hZ hown (ow hw 5 rfl) (ow hw 6 rfl) (ow hw 7 rfl) e41 (g := (mkF m 60 #[.val (.int p0), .val (.int p1), .val (.int p2), .val (.int p3), .val (.int (0 : Int32)), .val (.int (own_b (¬ ((p0 &&& (2 : Int32)) = (0 : Int32))))), .val (.int (1 : Int32)), .val (.int mv), .val (.int nv), .unset, .unset, .unset] [])) rfl (hb hby at_60) (by decide) (by decide)
      obtain ⟨b43, g43⟩ : ∃ z, z = h0.size := ⟨_, rfl⟩
      rw [← g43] at A43 D43 st43
      have gn_b43 : n0 ≤ b43 := Nat.le_trans Z0 (Nat.le_of_eq g43.symm)
      have Z44 : n0 ≤ h43.size := Nat.le_trans Z0 E43.1
      have F__tasks_b43 : Fld Z h43 b43 oR "_tasks" "[Lcom/example/portunus/portunus/policy/WaitingTask;" .null := D43 (Or.inl (ow hw 20 rfl)) (ty := (.array (.object oW))) (by decide)
      have F__mayBeLostAfterUs_b43 : Fld Z h43 b43 oR "_mayBeLostAfterUs" "[D" .null := D43 (Or.inl (ow hw 22 rfl)) (ty := (.array .double)) (by decide)
      have F__size_b43 : Fld Z h43 b43 oR "_size" "I" (.int (0 : Int32)) := D43 (Or.inl (ow hw 29 rfl)) (ty := .int) (by decide)
      have F__first_b43 : Fld Z h43 b43 oR "_first" "I" (.int (0 : Int32)) := D43 (Or.inl (ow hw 35 rfl)) (ty := .int) (by decide)
      have F__lostSlots_b43 : Fld Z h43 b43 oR "_lostSlots" "I" (.int (0 : Int32)) := D43 (Or.inl (ow hw 44 rfl)) (ty := .int) (by decide)
      obtain ⟨_, _, ⟨T45, L45, k45, n45⟩, -, X45, ⟨Lc45, hQ45, l45, y45, z45⟩, st45⟩ := X43.specialBack hx (y := (⟨oR, "<init>", "(Z)V"⟩ : MethodName)) rfl hown (mvT hZ (ow hw 8 rfl)) (mvT hZ (ow hw 9 rfl)) (mvT hZ (ow hw 10 rfl)) (by decide) (backOf (W := 1) (rm2n l Z a0 hw [] b43 .null .null h43 n0 Z44 A43 F__tasks_b43 F__mayBeLostAfterUs_b43 F__size_b43 F__lostSlots_b43 F__first_b43 gn_b43) hZ (ow hw 10 rfl) (ow hw 7 rfl) (by decide) (by decide)) (g := (mkF m 66 #[.val (.int p0), .val (.int p1), .val (.int p2), .val (.int p3), .val (.int (0 : Int32)), .val (.int (own_b (¬ ((p0 &&& (2 : Int32)) = (0 : Int32))))), .val (.int (1 : Int32)), .val (.int mv), .val (.int nv), .unset, .unset, .unset] [(.int (0 : Int32)), (.ref b43), (.ref b43)])) rfl (by rw [hml]; rfl) (Steps.refl _) (a := b43) (argsL := [(.int (0 : Int32))]) (rest := [(.ref b43)]) (lenOf pd7 rfl) rfl (by show 2 * 0 + _ ≤ _; exact Nat.le_of_eq rfl) (hb hby at_66) (fun _ _ => ⟨rfl, e43, (by decide : 1 + 1 ≤ _), (by decide : 5 + 8 ≤ _)⟩)
      dsimp only [Pt.U, Pt.locs, Pt.cells, Pt.slots] at X45 l45 y45 z45 st45 hQ45
      subst l45 y45 z45
      obtain ⟨tk_46, kt_47, rfl, N45q, K45, u45_0, u45_1, f45_0, f45_1, f45_2, f45_3, f45_4, f45_5, f45_6⟩ := hQ45
      have N45 := Fr.app N41 N45q
      have Z48 : n0 ≤ T45.heap.size := Nat.le_trans Z44 K45.1
      have ne49 : b43 ≠ tk_46 := Nat.ne_of_lt (Nat.lt_of_lt_of_le A43.lt u45_1)
      obtain ⟨cq50, kq50, q50a, q50b, q50c⟩ := isOf hZ rfl f45_0
      obtain ⟨_, _, ⟨T50, L50, k50, n50⟩, -, X50, ⟨Lc50, hQ50, l50, y50, z50⟩, st50⟩ := X45.virtualBack hx (y := (⟨oR, "addLast", "(Lcom/example/portunus/portunus/policy/WaitingTask;D)V"⟩ : MethodName)) (z := (⟨oR, "addLast", "(Lcom/example/portunus/portunus/policy/WaitingTask;D)V"⟩ : MethodName)) hown (mvT hZ (ow hw 23 rfl)) (mvT hZ (ow hw 24 rfl)) (notFace_of_selects (args := #[]) (mvT hZ (ow hw 26 rfl))) (mvT hZ (ow hw 26 rfl)) (mvT hZ (ow hw 25 rfl)) (by decide) (backOf (W := 0) (rm5n l Z a0 hw [] b43 Jvm.FP.dconst1 tk_46 (0 : Int32) (0 : Int32) (0 : Int32) kt_47 T45.heap n0 Z48 f45_0 f45_1 f45_2 f45_3 f45_4 f45_5 f45_6 gn_b43 u45_0 ne49 (by first | assumption | decide | omega)) hZ (ow hw 27 rfl) (ow hw 7 rfl) (by decide) (by decide)) q50a q50c (g := (mkF m 81 #[.val (.int p0), .val (.int p1), .val (.int p2), .val (.int p3), .val (.int (0 : Int32)), .val (.int (own_b (¬ ((p0 &&& (2 : Int32)) = (0 : Int32))))), .val (.int (1 : Int32)), .val (.int mv), .val (.int nv), .val (.ref b43), .unset, .unset] [(.double Jvm.FP.dconst1), .null, (.ref b43)])) rfl (by rw [hml]; rfl) (Steps.refl _) (argsL := [.null, (.double Jvm.FP.dconst1)]) (rest := []) (lenOf pd10 rfl) rfl (by show 2 * 0 + _ ≤ _; exact Nat.le_of_eq rfl) (hb hby at_81) (fun _ _ => ⟨rfl, rfl, (by decide : 2 + 0 ≤ _), (by decide : 13 + 0 ≤ _)⟩)
      dsimp only [Pt.U, Pt.locs, Pt.cells, Pt.slots] at X50 l50 y50 z50 st50 hQ50
      subst l50 y50 z50
      obtain ⟨rfl, N50q, K50, f50_0, f50_1, f50_2, f50_3, f50_4, f50_5, f50_6⟩ := hQ50
      have N50 := Fr.app N45 N50q
      have Z51 : n0 ≤ T50.heap.size := Nat.le_trans Z48 K50.1
      obtain ⟨cq52, kq52, q52a, q52b, q52c⟩ := isOf hZ rfl f50_0
      obtain ⟨_, _, ⟨T52, L52, k52, n52⟩, -, X52, ⟨Lc52, hQ52, l52, y52, z52⟩, st52⟩ := X50.virtualBack hx (y := (⟨oR, "hasOther", "()Z"⟩ : MethodName)) (z := (⟨oR, "hasOther", "()Z"⟩ : MethodName)) hown (mvT hZ (ow hw 38 rfl)) (mvT hZ (ow hw 39 rfl)) (notFace_of_selects (args := #[]) (mvT hZ (ow hw 41 rfl))) (mvT hZ (ow hw 41 rfl)) (mvT hZ (ow hw 40 rfl)) (by decide) (backOf (W := 0) (rm7 l Z a0 hw [] b43 ((0 : Int32) + (1 : Int32)) (0 : Int32) T50.heap n0 Z51 f50_3 f50_4) hZ (ow hw 42 rfl) (ow hw 7 rfl) (by decide) (by decide)) q52a q52c (g := (mkF m 116 #[.val (.int p0), .val (.int p1), .val (.int p2), .val (.int p3), .val (.int (0 : Int32)), .val (.int (own_b (¬ ((p0 &&& (2 : Int32)) = (0 : Int32))))), .val (.int (1 : Int32)), .val (.int mv), .val (.int nv), .val (.ref b43), .unset, .unset] [(.ref b43)])) rfl (by rw [hml]; rfl) (Steps.refl _) (argsL := []) (rest := []) (lenOf pd8 rfl) rfl (by show 2 * 0 + _ ≤ _; exact Nat.le_of_eq rfl) (hb hby at_116) (fun _ _ => ⟨rfl, rfl, (by decide : 2 + 0 ≤ _), (by decide : 13 + 0 ≤ _)⟩)
      dsimp only [Pt.U, Pt.locs, Pt.cells, Pt.slots] at X52 l52 y52 z52 st52 hQ52
      subst l52 y52 z52
      obtain ⟨rfl, N52q, e52⟩ := hQ52
      have N52 := Fr.app N50 N52q
      have pre53 : ∀ tZ, Steps p.tables e below (T52.setTop (mkF m 123 #[.val (.int p0), .val (.int p1), .val (.int p2), .val (.int p3), .val (.int (0 : Int32)), .val (.int (own_b (¬ ((p0 &&& (2 : Int32)) = (0 : Int32))))), .val (.int (1 : Int32)), .val (.int mv), .val (.int nv), .val (.ref b43), .val (.int (own_b ((0 : Int32) < ((0 : Int32) + (1 : Int32))))), .unset] [(.int (own_b (¬ ((p0 &&& (2 : Int32)) = (0 : Int32)))))])) tZ → Steps p.tables e below (s₁.setTop (entryFrame m #[(.int p0), (.int p1), (.int p2), (.int p3)] maxLocals)) tZ := fun tZ kZ => pre42 tZ (by
        show Steps p.tables e below (T41.setTop (mkF m 60 #[.val (.int p0), .val (.int p1), .val (.int p2), .val (.int p3), .val (.int (0 : Int32)), .val (.int (own_b (¬ ((p0 &&& (2 : Int32)) = (0 : Int32))))), .val (.int (1 : Int32)), .val (.int mv), .val (.int nv), .unset, .unset, .unset] [])) _
        refine st43 _ ?_
        show Steps p.tables e below (T43.setTop (mkF m 63 #[.val (.int p0), .val (.int p1), .val (.int p2), .val (.int p3), .val (.int (0 : Int32)), .val (.int (own_b (¬ ((p0 &&& (2 : Int32)) = (0 : Int32))))), .val (.int (1 : Int32)), .val (.int mv), .val (.int nv), .unset, .unset, .unset] [(.ref b43)])) _
        refine XS.dup X43.here hx rfl (hb hby at_63) rfl rfl ?_
        show Steps p.tables e below (T43.setTop (mkF m 64 #[.val (.int p0), .val (.int p1), .val (.int p2), .val (.int p3), .val (.int (0 : Int32)), .val (.int (own_b (¬ ((p0 &&& (2 : Int32)) = (0 : Int32))))), .val (.int (1 : Int32)), .val (.int mv), .val (.int nv), .unset, .unset, .unset] [(.ref b43), (.ref b43)])) _
        refine XS.iload X43.here hx rfl (hb hby at_64) rfl  ?_
        show Steps p.tables e below (T43.setTop (mkF m 66 #[.val (.int p0), .val (.int p1), .val (.int p2), .val (.int p3), .val (.int (0 : Int32)), .val (.int (own_b (¬ ((p0 &&& (2 : Int32)) = (0 : Int32))))), .val (.int (1 : Int32)), .val (.int mv), .val (.int nv), .unset, .unset, .unset] [(.int (0 : Int32)), (.ref b43), (.ref b43)])) _
        refine st45.trans ?_
        show Steps p.tables e below (T45.setTop (mkF m 69 #[.val (.int p0), .val (.int p1), .val (.int p2), .val (.int p3), .val (.int (0 : Int32)), .val (.int (own_b (¬ ((p0 &&& (2 : Int32)) = (0 : Int32))))), .val (.int (1 : Int32)), .val (.int mv), .val (.int nv), .unset, .unset, .unset] [(.ref b43)])) _
        refine XS.astore X45.here hx rfl (hb hby at_69) rfl rfl (l' := #[.val (.int p0), .val (.int p1), .val (.int p2), .val (.int p3), .val (.int (0 : Int32)), .val (.int (own_b (¬ ((p0 &&& (2 : Int32)) = (0 : Int32))))), .val (.int (1 : Int32)), .val (.int mv), .val (.int nv), .val (.ref b43), .unset, .unset]) rfl ?_
        show Steps p.tables e below (T45.setTop (mkF m 71 #[.val (.int p0), .val (.int p1), .val (.int p2), .val (.int p3), .val (.int (0 : Int32)), .val (.int (own_b (¬ ((p0 &&& (2 : Int32)) = (0 : Int32))))), .val (.int (1 : Int32)), .val (.int mv), .val (.int nv), .val (.ref b43), .unset, .unset] [])) _
        refine XS.iload X45.here hx rfl (hb hby at_71) rfl  ?_
        show Steps p.tables e below (T45.setTop (mkF m 73 #[.val (.int p0), .val (.int p1), .val (.int p2), .val (.int p3), .val (.int (0 : Int32)), .val (.int (own_b (¬ ((p0 &&& (2 : Int32)) = (0 : Int32))))), .val (.int (1 : Int32)), .val (.int mv), .val (.int nv), .val (.ref b43), .unset, .unset] [(.int (1 : Int32))])) _
        refine XS.iconst X45.here hx rfl (hb hby at_73) ?_
        show Steps p.tables e below (T45.setTop (mkF m 74 #[.val (.int p0), .val (.int p1), .val (.int p2), .val (.int p3), .val (.int (0 : Int32)), .val (.int (own_b (¬ ((p0 &&& (2 : Int32)) = (0 : Int32))))), .val (.int (1 : Int32)), .val (.int mv), .val (.int nv), .val (.ref b43), .unset, .unset] [(.int (1 : Int32)), (.int (1 : Int32))])) _
        refine XS.icmpNo X45.here hx rfl (hb hby at_74) rfl (flt (by decide)).1 ?_
        show Steps p.tables e below (T45.setTop (mkF m 77 #[.val (.int p0), .val (.int p1), .val (.int p2), .val (.int p3), .val (.int (0 : Int32)), .val (.int (own_b (¬ ((p0 &&& (2 : Int32)) = (0 : Int32))))), .val (.int (1 : Int32)), .val (.int mv), .val (.int nv), .val (.ref b43), .unset, .unset] [])) _
        refine XS.aload X45.here hx rfl (hb hby at_77) rfl rfl ?_
        show Steps p.tables e below (T45.setTop (mkF m 79 #[.val (.int p0), .val (.int p1), .val (.int p2), .val (.int p3), .val (.int (0 : Int32)), .val (.int (own_b (¬ ((p0 &&& (2 : Int32)) = (0 : Int32))))), .val (.int (1 : Int32)), .val (.int mv), .val (.int nv), .val (.ref b43), .unset, .unset] [(.ref b43)])) _
        refine XS.aconstNull X45.here hx rfl (hb hby at_79) ?_
        show Steps p.tables e below (T45.setTop (mkF m 80 #[.val (.int p0), .val (.int p1), .val (.int p2), .val (.int p3), .val (.int (0 : Int32)), .val (.int (own_b (¬ ((p0 &&& (2 : Int32)) = (0 : Int32))))), .val (.int (1 : Int32)), .val (.int mv), .val (.int nv), .val (.ref b43), .unset, .unset] [.null, (.ref b43)])) _
        refine XS.dconst1 X45.here hx rfl (v := Jvm.FP.dconst1) (hb hby at_80) rfl ?_
        show Steps p.tables e below (T45.setTop (mkF m 81 #[.val (.int p0), .val (.int p1), .val (.int p2), .val (.int p3), .val (.int (0 : Int32)), .val (.int (own_b (¬ ((p0 &&& (2 : Int32)) = (0 : Int32))))), .val (.int (1 : Int32)), .val (.int mv), .val (.int nv), .val (.ref b43), .unset, .unset] [(.double Jvm.FP.dconst1), .null, (.ref b43)])) _
        refine st50.trans ?_
        show Steps p.tables e below (T50.setTop (mkF m 84 #[.val (.int p0), .val (.int p1), .val (.int p2), .val (.int p3), .val (.int (0 : Int32)), .val (.int (own_b (¬ ((p0 &&& (2 : Int32)) = (0 : Int32))))), .val (.int (1 : Int32)), .val (.int mv), .val (.int nv), .val (.ref b43), .unset, .unset] [])) _
        refine XS.iload X50.here hx rfl (hb hby at_84) rfl  ?_
        show Steps p.tables e below (T50.setTop (mkF m 86 #[.val (.int p0), .val (.int p1), .val (.int p2), .val (.int p3), .val (.int (0 : Int32)), .val (.int (own_b (¬ ((p0 &&& (2 : Int32)) = (0 : Int32))))), .val (.int (1 : Int32)), .val (.int mv), .val (.int nv), .val (.ref b43), .unset, .unset] [(.int (1 : Int32))])) _
        refine XS.iconst X50.here hx rfl (hb hby at_86) ?_
        show Steps p.tables e below (T50.setTop (mkF m 87 #[.val (.int p0), .val (.int p1), .val (.int p2), .val (.int p3), .val (.int (0 : Int32)), .val (.int (own_b (¬ ((p0 &&& (2 : Int32)) = (0 : Int32))))), .val (.int (1 : Int32)), .val (.int mv), .val (.int nv), .val (.ref b43), .unset, .unset] [(.int (2 : Int32)), (.int (1 : Int32))])) _
        refine XS.icmpYes X50.here hx rfl (pc0 := 87) (pc' := 99) rfl (hb hby at_87) rfl (tlt (by decide)).1 (by decide) (by decide) ?_
        show Steps p.tables e below (T50.setTop (mkF m 99 #[.val (.int p0), .val (.int p1), .val (.int p2), .val (.int p3), .val (.int (0 : Int32)), .val (.int (own_b (¬ ((p0 &&& (2 : Int32)) = (0 : Int32))))), .val (.int (1 : Int32)), .val (.int mv), .val (.int nv), .val (.ref b43), .unset, .unset] [])) _
        refine XS.iload X50.here hx rfl (hb hby at_99) rfl  ?_
        show Steps p.tables e below (T50.setTop (mkF m 101 #[.val (.int p0), .val (.int p1), .val (.int p2), .val (.int p3), .val (.int (0 : Int32)), .val (.int (own_b (¬ ((p0 &&& (2 : Int32)) = (0 : Int32))))), .val (.int (1 : Int32)), .val (.int mv), .val (.int nv), .val (.ref b43), .unset, .unset] [(.int (1 : Int32))])) _
        refine XS.iconst X50.here hx rfl (hb hby at_101) ?_
        show Steps p.tables e below (T50.setTop (mkF m 102 #[.val (.int p0), .val (.int p1), .val (.int p2), .val (.int p3), .val (.int (0 : Int32)), .val (.int (own_b (¬ ((p0 &&& (2 : Int32)) = (0 : Int32))))), .val (.int (1 : Int32)), .val (.int mv), .val (.int nv), .val (.ref b43), .unset, .unset] [(.int (3 : Int32)), (.int (1 : Int32))])) _
        refine XS.icmpYes X50.here hx rfl (pc0 := 102) (pc' := 114) rfl (hb hby at_102) rfl (tlt (by decide)).1 (by decide) (by decide) ?_
        show Steps p.tables e below (T50.setTop (mkF m 114 #[.val (.int p0), .val (.int p1), .val (.int p2), .val (.int p3), .val (.int (0 : Int32)), .val (.int (own_b (¬ ((p0 &&& (2 : Int32)) = (0 : Int32))))), .val (.int (1 : Int32)), .val (.int mv), .val (.int nv), .val (.ref b43), .unset, .unset] [])) _
        refine XS.aload X50.here hx rfl (hb hby at_114) rfl rfl ?_
        show Steps p.tables e below (T50.setTop (mkF m 116 #[.val (.int p0), .val (.int p1), .val (.int p2), .val (.int p3), .val (.int (0 : Int32)), .val (.int (own_b (¬ ((p0 &&& (2 : Int32)) = (0 : Int32))))), .val (.int (1 : Int32)), .val (.int mv), .val (.int nv), .val (.ref b43), .unset, .unset] [(.ref b43)])) _
        refine st52.trans ?_
        show Steps p.tables e below (T52.setTop (mkF m 119 #[.val (.int p0), .val (.int p1), .val (.int p2), .val (.int p3), .val (.int (0 : Int32)), .val (.int (own_b (¬ ((p0 &&& (2 : Int32)) = (0 : Int32))))), .val (.int (1 : Int32)), .val (.int mv), .val (.int nv), .val (.ref b43), .unset, .unset] [(.int (own_b ((0 : Int32) < ((0 : Int32) + (1 : Int32)))))])) _
        refine XS.istore X52.here hx rfl (hb hby at_119) rfl (l' := #[.val (.int p0), .val (.int p1), .val (.int p2), .val (.int p3), .val (.int (0 : Int32)), .val (.int (own_b (¬ ((p0 &&& (2 : Int32)) = (0 : Int32))))), .val (.int (1 : Int32)), .val (.int mv), .val (.int nv), .val (.ref b43), .val (.int (own_b ((0 : Int32) < ((0 : Int32) + (1 : Int32))))), .unset]) rfl ?_
        show Steps p.tables e below (T52.setTop (mkF m 121 #[.val (.int p0), .val (.int p1), .val (.int p2), .val (.int p3), .val (.int (0 : Int32)), .val (.int (own_b (¬ ((p0 &&& (2 : Int32)) = (0 : Int32))))), .val (.int (1 : Int32)), .val (.int mv), .val (.int nv), .val (.ref b43), .val (.int (own_b ((0 : Int32) < ((0 : Int32) + (1 : Int32))))), .unset] [])) _
        refine XS.iload X52.here hx rfl (hb hby at_121) rfl  ?_
        exact kZ)
      by_cases hc54 : (¬ ((p0 &&& (2 : Int32)) = (0 : Int32)))
      ·  -- yes
        obtain ⟨_, _, ⟨T55, L55, k55, n55⟩, -, X55, ⟨Lc55, hQ55, l55, y55, z55⟩, st55⟩ := Jvm.LawKit.callS X52 hx (y := (⟨oL, "doPolls", "(Lcom/example/portunus/portunus/policy/Run;I)V"⟩ : MethodName)) hown (mvT hZ (ow hw 54 rfl)) (mvT hZ (ow hw 55 rfl)) (mvT hZ (ow hw 47 rfl)) (mvT hZ (ow hw 56 rfl)) (by decide) (backOf (W := 0) (rm10n l Z a0 hw [] b43 nv tk_46 ((0 : Int32) + (1 : Int32)) (0 : Int32) (0 : Int32) kt_47 T50.heap n0 Z51 f50_0 f50_1 f50_2 f50_3 f50_4 f50_5 f50_6 gn_b43 u45_0 ne49 hn4 (by decide)) hZ (ow hw 56 rfl) (ow hw 47 rfl) (by decide) (by decide)) (g := (mkF m 130 #[.val (.int p0), .val (.int p1), .val (.int p2), .val (.int p3), .val (.int (0 : Int32)), .val (.int (own_b (¬ ((p0 &&& (2 : Int32)) = (0 : Int32))))), .val (.int (1 : Int32)), .val (.int mv), .val (.int nv), .val (.ref b43), .val (.int (own_b ((0 : Int32) < ((0 : Int32) + (1 : Int32))))), .unset] [(.int nv), (.ref b43)])) rfl (by rw [hml]; rfl) (argsL := [(.ref b43), (.int nv)]) (rest := []) (lenOf pd9 rfl) rfl (by show 2 * 0 + _ ≤ _; exact Nat.le_of_eq rfl) (hb hby at_130) (fun _ _ => ⟨rfl, e52, (by decide : 2 + 0 ≤ _), (by decide : 13 + 0 ≤ _)⟩)
        dsimp only [Pt.U, Pt.locs, Pt.cells, Pt.slots] at X55 l55 y55 z55 st55 hQ55
        subst l55 y55 z55
        obtain ⟨fn_56, rfl, N55q, K55, f55_0, f55_1, f55_2, f55_3, f55_4, f55_5, f55_6⟩ := hQ55
        have N55 := Fr.app N52 N55q
        have Z57 : n0 ≤ T55.heap.size := Nat.le_trans Z51 K55.1
        obtain ⟨_, _, ⟨T58, L58, k58, n58⟩, -, X58, ⟨Lc58, hQ58, l58, y58, z58⟩, st58⟩ := Jvm.LawKit.callS X55 hx (y := (⟨oL, "doMarks", "(Lcom/example/portunus/portunus/policy/Run;I)V"⟩ : MethodName)) hown (mvT hZ (ow hw 45 rfl)) (mvT hZ (ow hw 46 rfl)) (mvT hZ (ow hw 47 rfl)) (mvT hZ (ow hw 48 rfl)) (by decide) (backOf (W := 0) (rm8n l Z a0 hw [] b43 mv tk_46 (own_ps (0 : Int32) ((0 : Int32) + (1 : Int32)) nv) (own_pl (0 : Int32) nv) fn_56 kt_47 T55.heap n0 Z57 f55_0 f55_1 f55_2 f55_3 f55_4 f55_5 f55_6 gn_b43 u45_0 ne49 hm4) hZ (ow hw 48 rfl) (ow hw 47 rfl) (by decide) (by decide)) (g := (mkF m 137 #[.val (.int p0), .val (.int p1), .val (.int p2), .val (.int p3), .val (.int (0 : Int32)), .val (.int (own_b (¬ ((p0 &&& (2 : Int32)) = (0 : Int32))))), .val (.int (1 : Int32)), .val (.int mv), .val (.int nv), .val (.ref b43), .val (.int (own_b ((0 : Int32) < ((0 : Int32) + (1 : Int32))))), .unset] [(.int mv), (.ref b43)])) rfl (by rw [hml]; rfl) (argsL := [(.ref b43), (.int mv)]) (rest := []) (lenOf pd9 rfl) rfl (by show 2 * 0 + _ ≤ _; exact Nat.le_of_eq rfl) (hb hby at_137) (fun _ _ => ⟨rfl, rfl, (by decide : 2 + 0 ≤ _), (by decide : 13 + 0 ≤ _)⟩)
        dsimp only [Pt.U, Pt.locs, Pt.cells, Pt.slots] at X58 l58 y58 z58 st58 hQ58
        subst l58 y58 z58
        obtain ⟨rfl, N58q, K58, f58_0, f58_1, f58_2, f58_3, f58_4, f58_5, f58_6⟩ := hQ58
        have N58 := Fr.app N55 N58q
        have Z59 : n0 ≤ T58.heap.size := Nat.le_trans Z57 K58.1
        obtain ⟨cq60, kq60, q60a, q60b, q60c⟩ := isOf hZ rfl f58_0
        obtain ⟨_, _, ⟨T60, L60, k60, n60⟩, -, X60, ⟨Lc60, hQ60, l60, y60, z60⟩, st60⟩ := X58.virtualBack hx (y := (⟨oR, "hasOther", "()Z"⟩ : MethodName)) (z := (⟨oR, "hasOther", "()Z"⟩ : MethodName)) hown (mvT hZ (ow hw 38 rfl)) (mvT hZ (ow hw 39 rfl)) (notFace_of_selects (args := #[]) (mvT hZ (ow hw 41 rfl))) (mvT hZ (ow hw 41 rfl)) (mvT hZ (ow hw 40 rfl)) (by decide) (backOf (W := 0) (rm7 l Z a0 hw [] b43 (own_ps (0 : Int32) ((0 : Int32) + (1 : Int32)) nv) ((own_pl (0 : Int32) nv) + mv) T58.heap n0 Z59 f58_3 f58_4) hZ (ow hw 42 rfl) (ow hw 7 rfl) (by decide) (by decide)) q60a q60c (g := (mkF m 159 #[.val (.int p0), .val (.int p1), .val (.int p2), .val (.int p3), .val (.int (0 : Int32)), .val (.int (own_b (¬ ((p0 &&& (2 : Int32)) = (0 : Int32))))), .val (.int (1 : Int32)), .val (.int mv), .val (.int nv), .val (.ref b43), .val (.int (own_b ((0 : Int32) < ((0 : Int32) + (1 : Int32))))), .unset] [(.ref b43)])) rfl (by rw [hml]; rfl) (Steps.refl _) (argsL := []) (rest := []) (lenOf pd8 rfl) rfl (by show 2 * 0 + _ ≤ _; exact Nat.le_of_eq rfl) (hb hby at_159) (fun _ _ => ⟨rfl, rfl, (by decide : 2 + 0 ≤ _), (by decide : 13 + 0 ≤ _)⟩)
        dsimp only [Pt.U, Pt.locs, Pt.cells, Pt.slots] at X60 l60 y60 z60 st60 hQ60
        subst l60 y60 z60
        obtain ⟨rfl, N60q, e60⟩ := hQ60
        have N60 := Fr.app N58 N60q
        have pre61 : ∀ tZ, Steps p.tables e below (T60.setTop (mkF m 189 #[.val (.int p0), .val (.int p1), .val (.int p2), .val (.int p3), .val (.int (0 : Int32)), .val (.int (own_b (¬ ((p0 &&& (2 : Int32)) = (0 : Int32))))), .val (.int (1 : Int32)), .val (.int mv), .val (.int nv), .val (.ref b43), .val (.int (own_b ((0 : Int32) < ((0 : Int32) + (1 : Int32))))), .val (.int (own_b (((own_pl (0 : Int32) nv) + mv) < (own_ps (0 : Int32) ((0 : Int32) + (1 : Int32)) nv))))] [(.int (((1 : Int32) - mv) - nv)), (.int (own_b (((own_pl (0 : Int32) nv) + mv) < (own_ps (0 : Int32) ((0 : Int32) + (1 : Int32)) nv))))])) tZ → Steps p.tables e below (s₁.setTop (entryFrame m #[(.int p0), (.int p1), (.int p2), (.int p3)] maxLocals)) tZ := fun tZ kZ => pre53 tZ (by
          show Steps p.tables e below (T52.setTop (mkF m 123 #[.val (.int p0), .val (.int p1), .val (.int p2), .val (.int p3), .val (.int (0 : Int32)), .val (.int (own_b (¬ ((p0 &&& (2 : Int32)) = (0 : Int32))))), .val (.int (1 : Int32)), .val (.int mv), .val (.int nv), .val (.ref b43), .val (.int (own_b ((0 : Int32) < ((0 : Int32) + (1 : Int32))))), .unset] [(.int (own_b (¬ ((p0 &&& (2 : Int32)) = (0 : Int32)))))])) _
          refine XS.ifNo X52.here hx rfl (hb hby at_123) rfl ((if0 _ _).trans (feq (own_b_nz hc54)).1) ?_
          show Steps p.tables e below (T52.setTop (mkF m 126 #[.val (.int p0), .val (.int p1), .val (.int p2), .val (.int p3), .val (.int (0 : Int32)), .val (.int (own_b (¬ ((p0 &&& (2 : Int32)) = (0 : Int32))))), .val (.int (1 : Int32)), .val (.int mv), .val (.int nv), .val (.ref b43), .val (.int (own_b ((0 : Int32) < ((0 : Int32) + (1 : Int32))))), .unset] [])) _
          refine XS.aload X52.here hx rfl (hb hby at_126) rfl rfl ?_
          show Steps p.tables e below (T52.setTop (mkF m 128 #[.val (.int p0), .val (.int p1), .val (.int p2), .val (.int p3), .val (.int (0 : Int32)), .val (.int (own_b (¬ ((p0 &&& (2 : Int32)) = (0 : Int32))))), .val (.int (1 : Int32)), .val (.int mv), .val (.int nv), .val (.ref b43), .val (.int (own_b ((0 : Int32) < ((0 : Int32) + (1 : Int32))))), .unset] [(.ref b43)])) _
          refine XS.iload X52.here hx rfl (hb hby at_128) rfl  ?_
          show Steps p.tables e below (T52.setTop (mkF m 130 #[.val (.int p0), .val (.int p1), .val (.int p2), .val (.int p3), .val (.int (0 : Int32)), .val (.int (own_b (¬ ((p0 &&& (2 : Int32)) = (0 : Int32))))), .val (.int (1 : Int32)), .val (.int mv), .val (.int nv), .val (.ref b43), .val (.int (own_b ((0 : Int32) < ((0 : Int32) + (1 : Int32))))), .unset] [(.int nv), (.ref b43)])) _
          refine st55 _ ?_
          show Steps p.tables e below (T55.setTop (mkF m 133 #[.val (.int p0), .val (.int p1), .val (.int p2), .val (.int p3), .val (.int (0 : Int32)), .val (.int (own_b (¬ ((p0 &&& (2 : Int32)) = (0 : Int32))))), .val (.int (1 : Int32)), .val (.int mv), .val (.int nv), .val (.ref b43), .val (.int (own_b ((0 : Int32) < ((0 : Int32) + (1 : Int32))))), .unset] [])) _
          refine XS.aload X55.here hx rfl (hb hby at_133) rfl rfl ?_
          show Steps p.tables e below (T55.setTop (mkF m 135 #[.val (.int p0), .val (.int p1), .val (.int p2), .val (.int p3), .val (.int (0 : Int32)), .val (.int (own_b (¬ ((p0 &&& (2 : Int32)) = (0 : Int32))))), .val (.int (1 : Int32)), .val (.int mv), .val (.int nv), .val (.ref b43), .val (.int (own_b ((0 : Int32) < ((0 : Int32) + (1 : Int32))))), .unset] [(.ref b43)])) _
          refine XS.iload X55.here hx rfl (hb hby at_135) rfl  ?_
          show Steps p.tables e below (T55.setTop (mkF m 137 #[.val (.int p0), .val (.int p1), .val (.int p2), .val (.int p3), .val (.int (0 : Int32)), .val (.int (own_b (¬ ((p0 &&& (2 : Int32)) = (0 : Int32))))), .val (.int (1 : Int32)), .val (.int mv), .val (.int nv), .val (.ref b43), .val (.int (own_b ((0 : Int32) < ((0 : Int32) + (1 : Int32))))), .unset] [(.int mv), (.ref b43)])) _
          refine st58 _ ?_
          show Steps p.tables e below (T58.setTop (mkF m 140 #[.val (.int p0), .val (.int p1), .val (.int p2), .val (.int p3), .val (.int (0 : Int32)), .val (.int (own_b (¬ ((p0 &&& (2 : Int32)) = (0 : Int32))))), .val (.int (1 : Int32)), .val (.int mv), .val (.int nv), .val (.ref b43), .val (.int (own_b ((0 : Int32) < ((0 : Int32) + (1 : Int32))))), .unset] [])) _
          refine XS.goto X58.here hx rfl (pc0 := 140) (pc' := 157) rfl (hb hby at_140) (by decide) (by decide) ?_
          show Steps p.tables e below (T58.setTop (mkF m 157 #[.val (.int p0), .val (.int p1), .val (.int p2), .val (.int p3), .val (.int (0 : Int32)), .val (.int (own_b (¬ ((p0 &&& (2 : Int32)) = (0 : Int32))))), .val (.int (1 : Int32)), .val (.int mv), .val (.int nv), .val (.ref b43), .val (.int (own_b ((0 : Int32) < ((0 : Int32) + (1 : Int32))))), .unset] [])) _
          refine XS.aload X58.here hx rfl (hb hby at_157) rfl rfl ?_
          show Steps p.tables e below (T58.setTop (mkF m 159 #[.val (.int p0), .val (.int p1), .val (.int p2), .val (.int p3), .val (.int (0 : Int32)), .val (.int (own_b (¬ ((p0 &&& (2 : Int32)) = (0 : Int32))))), .val (.int (1 : Int32)), .val (.int mv), .val (.int nv), .val (.ref b43), .val (.int (own_b ((0 : Int32) < ((0 : Int32) + (1 : Int32))))), .unset] [(.ref b43)])) _
          refine st60.trans ?_
          show Steps p.tables e below (T60.setTop (mkF m 162 #[.val (.int p0), .val (.int p1), .val (.int p2), .val (.int p3), .val (.int (0 : Int32)), .val (.int (own_b (¬ ((p0 &&& (2 : Int32)) = (0 : Int32))))), .val (.int (1 : Int32)), .val (.int mv), .val (.int nv), .val (.ref b43), .val (.int (own_b ((0 : Int32) < ((0 : Int32) + (1 : Int32))))), .unset] [(.int (own_b (((own_pl (0 : Int32) nv) + mv) < (own_ps (0 : Int32) ((0 : Int32) + (1 : Int32)) nv))))])) _
          refine XS.istore X60.here hx rfl (hb hby at_162) rfl (l' := #[.val (.int p0), .val (.int p1), .val (.int p2), .val (.int p3), .val (.int (0 : Int32)), .val (.int (own_b (¬ ((p0 &&& (2 : Int32)) = (0 : Int32))))), .val (.int (1 : Int32)), .val (.int mv), .val (.int nv), .val (.ref b43), .val (.int (own_b ((0 : Int32) < ((0 : Int32) + (1 : Int32))))), .val (.int (own_b (((own_pl (0 : Int32) nv) + mv) < (own_ps (0 : Int32) ((0 : Int32) + (1 : Int32)) nv))))]) rfl ?_
          show Steps p.tables e below (T60.setTop (mkF m 164 #[.val (.int p0), .val (.int p1), .val (.int p2), .val (.int p3), .val (.int (0 : Int32)), .val (.int (own_b (¬ ((p0 &&& (2 : Int32)) = (0 : Int32))))), .val (.int (1 : Int32)), .val (.int mv), .val (.int nv), .val (.ref b43), .val (.int (own_b ((0 : Int32) < ((0 : Int32) + (1 : Int32))))), .val (.int (own_b (((own_pl (0 : Int32) nv) + mv) < (own_ps (0 : Int32) ((0 : Int32) + (1 : Int32)) nv))))] [])) _
          refine XS.iload X60.here hx rfl (hb hby at_164) rfl  ?_
          show Steps p.tables e below (T60.setTop (mkF m 166 #[.val (.int p0), .val (.int p1), .val (.int p2), .val (.int p3), .val (.int (0 : Int32)), .val (.int (own_b (¬ ((p0 &&& (2 : Int32)) = (0 : Int32))))), .val (.int (1 : Int32)), .val (.int mv), .val (.int nv), .val (.ref b43), .val (.int (own_b ((0 : Int32) < ((0 : Int32) + (1 : Int32))))), .val (.int (own_b (((own_pl (0 : Int32) nv) + mv) < (own_ps (0 : Int32) ((0 : Int32) + (1 : Int32)) nv))))] [(.int (own_b ((0 : Int32) < ((0 : Int32) + (1 : Int32)))))])) _
          refine XS.iload X60.here hx rfl (hb hby at_166) rfl  ?_
          show Steps p.tables e below (T60.setTop (mkF m 168 #[.val (.int p0), .val (.int p1), .val (.int p2), .val (.int p3), .val (.int (0 : Int32)), .val (.int (own_b (¬ ((p0 &&& (2 : Int32)) = (0 : Int32))))), .val (.int (1 : Int32)), .val (.int mv), .val (.int nv), .val (.ref b43), .val (.int (own_b ((0 : Int32) < ((0 : Int32) + (1 : Int32))))), .val (.int (own_b (((own_pl (0 : Int32) nv) + mv) < (own_ps (0 : Int32) ((0 : Int32) + (1 : Int32)) nv))))] [(.int (1 : Int32)), (.int (own_b ((0 : Int32) < ((0 : Int32) + (1 : Int32)))))])) _
          refine XS.ifNo X60.here hx rfl (hb hby at_168) rfl ((if0 _ _).trans (tlt (by decide)).2.2.2) ?_
          show Steps p.tables e below (T60.setTop (mkF m 171 #[.val (.int p0), .val (.int p1), .val (.int p2), .val (.int p3), .val (.int (0 : Int32)), .val (.int (own_b (¬ ((p0 &&& (2 : Int32)) = (0 : Int32))))), .val (.int (1 : Int32)), .val (.int mv), .val (.int nv), .val (.ref b43), .val (.int (own_b ((0 : Int32) < ((0 : Int32) + (1 : Int32))))), .val (.int (own_b (((own_pl (0 : Int32) nv) + mv) < (own_ps (0 : Int32) ((0 : Int32) + (1 : Int32)) nv))))] [(.int (own_b ((0 : Int32) < ((0 : Int32) + (1 : Int32)))))])) _
          refine XS.iconst X60.here hx rfl (hb hby at_171) ?_
          show Steps p.tables e below (T60.setTop (mkF m 172 #[.val (.int p0), .val (.int p1), .val (.int p2), .val (.int p3), .val (.int (0 : Int32)), .val (.int (own_b (¬ ((p0 &&& (2 : Int32)) = (0 : Int32))))), .val (.int (1 : Int32)), .val (.int mv), .val (.int nv), .val (.ref b43), .val (.int (own_b ((0 : Int32) < ((0 : Int32) + (1 : Int32))))), .val (.int (own_b (((own_pl (0 : Int32) nv) + mv) < (own_ps (0 : Int32) ((0 : Int32) + (1 : Int32)) nv))))] [(.int (1 : Int32)), (.int (own_b ((0 : Int32) < ((0 : Int32) + (1 : Int32)))))])) _
          refine XS.goto X60.here hx rfl (pc0 := 172) (pc' := 176) rfl (hb hby at_172) (by decide) (by decide) ?_
          show Steps p.tables e below (T60.setTop (mkF m 176 #[.val (.int p0), .val (.int p1), .val (.int p2), .val (.int p3), .val (.int (0 : Int32)), .val (.int (own_b (¬ ((p0 &&& (2 : Int32)) = (0 : Int32))))), .val (.int (1 : Int32)), .val (.int mv), .val (.int nv), .val (.ref b43), .val (.int (own_b ((0 : Int32) < ((0 : Int32) + (1 : Int32))))), .val (.int (own_b (((own_pl (0 : Int32) nv) + mv) < (own_ps (0 : Int32) ((0 : Int32) + (1 : Int32)) nv))))] [(.int (1 : Int32)), (.int (own_b ((0 : Int32) < ((0 : Int32) + (1 : Int32)))))])) _
          refine XS.icmpNo X60.here hx rfl (hb hby at_176) rfl (teq (by decide)).2 ?_
          show Steps p.tables e below (T60.setTop (mkF m 179 #[.val (.int p0), .val (.int p1), .val (.int p2), .val (.int p3), .val (.int (0 : Int32)), .val (.int (own_b (¬ ((p0 &&& (2 : Int32)) = (0 : Int32))))), .val (.int (1 : Int32)), .val (.int mv), .val (.int nv), .val (.ref b43), .val (.int (own_b ((0 : Int32) < ((0 : Int32) + (1 : Int32))))), .val (.int (own_b (((own_pl (0 : Int32) nv) + mv) < (own_ps (0 : Int32) ((0 : Int32) + (1 : Int32)) nv))))] [])) _
          refine XS.iload X60.here hx rfl (hb hby at_179) rfl  ?_
          show Steps p.tables e below (T60.setTop (mkF m 181 #[.val (.int p0), .val (.int p1), .val (.int p2), .val (.int p3), .val (.int (0 : Int32)), .val (.int (own_b (¬ ((p0 &&& (2 : Int32)) = (0 : Int32))))), .val (.int (1 : Int32)), .val (.int mv), .val (.int nv), .val (.ref b43), .val (.int (own_b ((0 : Int32) < ((0 : Int32) + (1 : Int32))))), .val (.int (own_b (((own_pl (0 : Int32) nv) + mv) < (own_ps (0 : Int32) ((0 : Int32) + (1 : Int32)) nv))))] [(.int (own_b (((own_pl (0 : Int32) nv) + mv) < (own_ps (0 : Int32) ((0 : Int32) + (1 : Int32)) nv))))])) _
          refine XS.iload X60.here hx rfl (hb hby at_181) rfl  ?_
          show Steps p.tables e below (T60.setTop (mkF m 183 #[.val (.int p0), .val (.int p1), .val (.int p2), .val (.int p3), .val (.int (0 : Int32)), .val (.int (own_b (¬ ((p0 &&& (2 : Int32)) = (0 : Int32))))), .val (.int (1 : Int32)), .val (.int mv), .val (.int nv), .val (.ref b43), .val (.int (own_b ((0 : Int32) < ((0 : Int32) + (1 : Int32))))), .val (.int (own_b (((own_pl (0 : Int32) nv) + mv) < (own_ps (0 : Int32) ((0 : Int32) + (1 : Int32)) nv))))] [(.int (1 : Int32)), (.int (own_b (((own_pl (0 : Int32) nv) + mv) < (own_ps (0 : Int32) ((0 : Int32) + (1 : Int32)) nv))))])) _
          refine XS.iload X60.here hx rfl (hb hby at_183) rfl  ?_
          show Steps p.tables e below (T60.setTop (mkF m 185 #[.val (.int p0), .val (.int p1), .val (.int p2), .val (.int p3), .val (.int (0 : Int32)), .val (.int (own_b (¬ ((p0 &&& (2 : Int32)) = (0 : Int32))))), .val (.int (1 : Int32)), .val (.int mv), .val (.int nv), .val (.ref b43), .val (.int (own_b ((0 : Int32) < ((0 : Int32) + (1 : Int32))))), .val (.int (own_b (((own_pl (0 : Int32) nv) + mv) < (own_ps (0 : Int32) ((0 : Int32) + (1 : Int32)) nv))))] [(.int mv), (.int (1 : Int32)), (.int (own_b (((own_pl (0 : Int32) nv) + mv) < (own_ps (0 : Int32) ((0 : Int32) + (1 : Int32)) nv))))])) _
          refine XS.isub X60.here hx rfl (hb hby at_185) rfl ?_
          show Steps p.tables e below (T60.setTop (mkF m 186 #[.val (.int p0), .val (.int p1), .val (.int p2), .val (.int p3), .val (.int (0 : Int32)), .val (.int (own_b (¬ ((p0 &&& (2 : Int32)) = (0 : Int32))))), .val (.int (1 : Int32)), .val (.int mv), .val (.int nv), .val (.ref b43), .val (.int (own_b ((0 : Int32) < ((0 : Int32) + (1 : Int32))))), .val (.int (own_b (((own_pl (0 : Int32) nv) + mv) < (own_ps (0 : Int32) ((0 : Int32) + (1 : Int32)) nv))))] [(.int ((1 : Int32) - mv)), (.int (own_b (((own_pl (0 : Int32) nv) + mv) < (own_ps (0 : Int32) ((0 : Int32) + (1 : Int32)) nv))))])) _
          refine XS.iload X60.here hx rfl (hb hby at_186) rfl  ?_
          show Steps p.tables e below (T60.setTop (mkF m 188 #[.val (.int p0), .val (.int p1), .val (.int p2), .val (.int p3), .val (.int (0 : Int32)), .val (.int (own_b (¬ ((p0 &&& (2 : Int32)) = (0 : Int32))))), .val (.int (1 : Int32)), .val (.int mv), .val (.int nv), .val (.ref b43), .val (.int (own_b ((0 : Int32) < ((0 : Int32) + (1 : Int32))))), .val (.int (own_b (((own_pl (0 : Int32) nv) + mv) < (own_ps (0 : Int32) ((0 : Int32) + (1 : Int32)) nv))))] [(.int nv), (.int ((1 : Int32) - mv)), (.int (own_b (((own_pl (0 : Int32) nv) + mv) < (own_ps (0 : Int32) ((0 : Int32) + (1 : Int32)) nv))))])) _
          refine XS.isub X60.here hx rfl (hb hby at_188) rfl ?_
          exact kZ)
        have pre63 : ∀ tZ, Steps p.tables e below (T60.setTop (mkF m 197 #[.val (.int p0), .val (.int p1), .val (.int p2), .val (.int p3), .val (.int (0 : Int32)), .val (.int (own_b (¬ ((p0 &&& (2 : Int32)) = (0 : Int32))))), .val (.int (1 : Int32)), .val (.int mv), .val (.int nv), .val (.ref b43), .val (.int (own_b ((0 : Int32) < ((0 : Int32) + (1 : Int32))))), .val (.int (own_b (((own_pl (0 : Int32) nv) + mv) < (own_ps (0 : Int32) ((0 : Int32) + (1 : Int32)) nv))))] [(.int (own_b ((0 : Int32) < (((1 : Int32) - mv) - nv)))), (.int (own_b (((own_pl (0 : Int32) nv) + mv) < (own_ps (0 : Int32) ((0 : Int32) + (1 : Int32)) nv))))])) tZ → Steps p.tables e below (s₁.setTop (entryFrame m #[(.int p0), (.int p1), (.int p2), (.int p3)] maxLocals)) tZ := fun tZ kZ => pre61 tZ (by
          by_cases hc62 : (0 : Int32) < (((1 : Int32) - mv) - nv)
          ·  -- yes
            show Steps p.tables e below (T60.setTop (mkF m 189 #[.val (.int p0), .val (.int p1), .val (.int p2), .val (.int p3), .val (.int (0 : Int32)), .val (.int (own_b (¬ ((p0 &&& (2 : Int32)) = (0 : Int32))))), .val (.int (1 : Int32)), .val (.int mv), .val (.int nv), .val (.ref b43), .val (.int (own_b ((0 : Int32) < ((0 : Int32) + (1 : Int32))))), .val (.int (own_b (((own_pl (0 : Int32) nv) + mv) < (own_ps (0 : Int32) ((0 : Int32) + (1 : Int32)) nv))))] [(.int (((1 : Int32) - mv) - nv)), (.int (own_b (((own_pl (0 : Int32) nv) + mv) < (own_ps (0 : Int32) ((0 : Int32) + (1 : Int32)) nv))))])) _
            refine XS.ifNo X60.here hx rfl (hb hby at_189) rfl ((if0 _ _).trans (tlt hc62).2.2.2) ?_
            show Steps p.tables e below (T60.setTop (mkF m 192 #[.val (.int p0), .val (.int p1), .val (.int p2), .val (.int p3), .val (.int (0 : Int32)), .val (.int (own_b (¬ ((p0 &&& (2 : Int32)) = (0 : Int32))))), .val (.int (1 : Int32)), .val (.int mv), .val (.int nv), .val (.ref b43), .val (.int (own_b ((0 : Int32) < ((0 : Int32) + (1 : Int32))))), .val (.int (own_b (((own_pl (0 : Int32) nv) + mv) < (own_ps (0 : Int32) ((0 : Int32) + (1 : Int32)) nv))))] [(.int (own_b (((own_pl (0 : Int32) nv) + mv) < (own_ps (0 : Int32) ((0 : Int32) + (1 : Int32)) nv))))])) _
            refine XS.iconst X60.here hx rfl (hb hby at_192) ?_
            show Steps p.tables e below (T60.setTop (mkF m 193 #[.val (.int p0), .val (.int p1), .val (.int p2), .val (.int p3), .val (.int (0 : Int32)), .val (.int (own_b (¬ ((p0 &&& (2 : Int32)) = (0 : Int32))))), .val (.int (1 : Int32)), .val (.int mv), .val (.int nv), .val (.ref b43), .val (.int (own_b ((0 : Int32) < ((0 : Int32) + (1 : Int32))))), .val (.int (own_b (((own_pl (0 : Int32) nv) + mv) < (own_ps (0 : Int32) ((0 : Int32) + (1 : Int32)) nv))))] [(.int (1 : Int32)), (.int (own_b (((own_pl (0 : Int32) nv) + mv) < (own_ps (0 : Int32) ((0 : Int32) + (1 : Int32)) nv))))])) _
            refine XS.goto X60.here hx rfl (pc0 := 193) (pc' := 197) rfl (hb hby at_193) (by decide) (by decide) ?_
            have ekZ : (own_b ((0 : Int32) < (((1 : Int32) - mv) - nv))) = (1 : Int32) := by first | (simp only [own_b, eq_true hc62, and_true, true_and, and_false, false_and, or_true, true_or, or_false, false_or, not_true_eq_false, not_false_eq_true, if_true, if_false, reduceIte]; done) | (simp [own_b, hc62]; done)
            rw [ekZ] at kZ
            exact kZ
          ·  -- no
            show Steps p.tables e below (T60.setTop (mkF m 189 #[.val (.int p0), .val (.int p1), .val (.int p2), .val (.int p3), .val (.int (0 : Int32)), .val (.int (own_b (¬ ((p0 &&& (2 : Int32)) = (0 : Int32))))), .val (.int (1 : Int32)), .val (.int mv), .val (.int nv), .val (.ref b43), .val (.int (own_b ((0 : Int32) < ((0 : Int32) + (1 : Int32))))), .val (.int (own_b (((own_pl (0 : Int32) nv) + mv) < (own_ps (0 : Int32) ((0 : Int32) + (1 : Int32)) nv))))] [(.int (((1 : Int32) - mv) - nv)), (.int (own_b (((own_pl (0 : Int32) nv) + mv) < (own_ps (0 : Int32) ((0 : Int32) + (1 : Int32)) nv))))])) _
            refine XS.ifYes X60.here hx rfl (pc0 := 189) (pc' := 196) rfl (hb hby at_189) rfl ((if0 _ _).trans (flt hc62).2.2.2) (by decide) (by decide) ?_
            show Steps p.tables e below (T60.setTop (mkF m 196 #[.val (.int p0), .val (.int p1), .val (.int p2), .val (.int p3), .val (.int (0 : Int32)), .val (.int (own_b (¬ ((p0 &&& (2 : Int32)) = (0 : Int32))))), .val (.int (1 : Int32)), .val (.int mv), .val (.int nv), .val (.ref b43), .val (.int (own_b ((0 : Int32) < ((0 : Int32) + (1 : Int32))))), .val (.int (own_b (((own_pl (0 : Int32) nv) + mv) < (own_ps (0 : Int32) ((0 : Int32) + (1 : Int32)) nv))))] [(.int (own_b (((own_pl (0 : Int32) nv) + mv) < (own_ps (0 : Int32) ((0 : Int32) + (1 : Int32)) nv))))])) _
            refine XS.iconst X60.here hx rfl (hb hby at_196) ?_
            have ekZ : (own_b ((0 : Int32) < (((1 : Int32) - mv) - nv))) = (0 : Int32) := by first | (simp only [own_b, eq_false hc62, and_true, true_and, and_false, false_and, or_true, true_or, or_false, false_or, not_true_eq_false, not_false_eq_true, if_true, if_false, reduceIte]; done) | (simp [own_b, hc62]; done)
            rw [ekZ] at kZ
            exact kZ)
        obtain ⟨fsZ, hrZ, hrun, hended, hW, hsame⟩ := X60.leave (v := some (.int (1 : Int32))) (fun h => by rw [Bd.returns] at h; cases h)
        refine ⟨_, _, pre63 _ ?_, hrun, hended, _, _, rfl, ?_, ⟨_, rfl⟩, hW, hsame.mono (by decide) (by decide)⟩
        · show Steps p.tables e below (T60.setTop (mkF m 197 #[.val (.int p0), .val (.int p1), .val (.int p2), .val (.int p3), .val (.int (0 : Int32)), .val (.int (own_b (¬ ((p0 &&& (2 : Int32)) = (0 : Int32))))), .val (.int (1 : Int32)), .val (.int mv), .val (.int nv), .val (.ref b43), .val (.int (own_b ((0 : Int32) < ((0 : Int32) + (1 : Int32))))), .val (.int (own_b (((own_pl (0 : Int32) nv) + mv) < (own_ps (0 : Int32) ((0 : Int32) + (1 : Int32)) nv))))] [(.int (own_b ((0 : Int32) < (((1 : Int32) - mv) - nv)))), (.int (own_b (((own_pl (0 : Int32) nv) + mv) < (own_ps (0 : Int32) ((0 : Int32) + (1 : Int32)) nv))))])) _
          refine XS.icmpNo X60.here hx rfl (hb hby at_197) rfl (teq (own_fin_p (by decide) hm4 hn4 hm3.2.2 hn3.2.2)).2 ?_
          show Steps p.tables e below (T60.setTop (mkF m 200 #[.val (.int p0), .val (.int p1), .val (.int p2), .val (.int p3), .val (.int (0 : Int32)), .val (.int (own_b (¬ ((p0 &&& (2 : Int32)) = (0 : Int32))))), .val (.int (1 : Int32)), .val (.int mv), .val (.int nv), .val (.ref b43), .val (.int (own_b ((0 : Int32) < ((0 : Int32) + (1 : Int32))))), .val (.int (own_b (((own_pl (0 : Int32) nv) + mv) < (own_ps (0 : Int32) ((0 : Int32) + (1 : Int32)) nv))))] [])) _
          refine XS.iconst X60.here hx rfl (hb hby at_200) ?_
          show Steps p.tables e below (T60.setTop (mkF m 201 #[.val (.int p0), .val (.int p1), .val (.int p2), .val (.int p3), .val (.int (0 : Int32)), .val (.int (own_b (¬ ((p0 &&& (2 : Int32)) = (0 : Int32))))), .val (.int (1 : Int32)), .val (.int mv), .val (.int nv), .val (.ref b43), .val (.int (own_b ((0 : Int32) < ((0 : Int32) + (1 : Int32))))), .val (.int (own_b (((own_pl (0 : Int32) nv) + mv) < (own_ps (0 : Int32) ((0 : Int32) + (1 : Int32)) nv))))] [(.int (1 : Int32))])) _
          refine XS.goto X60.here hx rfl (pc0 := 201) (pc' := 205) rfl (hb hby at_201) (by decide) (by decide) ?_
          show Steps p.tables e below (T60.setTop (mkF m 205 #[.val (.int p0), .val (.int p1), .val (.int p2), .val (.int p3), .val (.int (0 : Int32)), .val (.int (own_b (¬ ((p0 &&& (2 : Int32)) = (0 : Int32))))), .val (.int (1 : Int32)), .val (.int mv), .val (.int nv), .val (.ref b43), .val (.int (own_b ((0 : Int32) < ((0 : Int32) + (1 : Int32))))), .val (.int (own_b (((own_pl (0 : Int32) nv) + mv) < (own_ps (0 : Int32) ((0 : Int32) + (1 : Int32)) nv))))] [(.int (1 : Int32))])) _
          exact retN X60 hx (t := .boolean) Bd.returns (by simp) (hb hby at_205) hrZ
        · show Q0 Z p0 p1 p2 p3 h0 n0 _ T60.heap _
          rw [e60]
          exact ⟨rfl, N60⟩
      ·  -- no
        obtain ⟨_, _, ⟨T64, L64, k64, n64⟩, -, X64, ⟨Lc64, hQ64, l64, y64, z64⟩, st64⟩ := Jvm.LawKit.callS X52 hx (y := (⟨oL, "doMarks", "(Lcom/example/portunus/portunus/policy/Run;I)V"⟩ : MethodName)) hown (mvT hZ (ow hw 45 rfl)) (mvT hZ (ow hw 46 rfl)) (mvT hZ (ow hw 47 rfl)) (mvT hZ (ow hw 48 rfl)) (by decide) (backOf (W := 0) (rm8n l Z a0 hw [] b43 mv tk_46 ((0 : Int32) + (1 : Int32)) (0 : Int32) (0 : Int32) kt_47 T50.heap n0 Z51 f50_0 f50_1 f50_2 f50_3 f50_4 f50_5 f50_6 gn_b43 u45_0 ne49 hm4) hZ (ow hw 48 rfl) (ow hw 47 rfl) (by decide) (by decide)) (g := (mkF m 147 #[.val (.int p0), .val (.int p1), .val (.int p2), .val (.int p3), .val (.int (0 : Int32)), .val (.int (own_b (¬ ((p0 &&& (2 : Int32)) = (0 : Int32))))), .val (.int (1 : Int32)), .val (.int mv), .val (.int nv), .val (.ref b43), .val (.int (own_b ((0 : Int32) < ((0 : Int32) + (1 : Int32))))), .unset] [(.int mv), (.ref b43)])) rfl (by rw [hml]; rfl) (argsL := [(.ref b43), (.int mv)]) (rest := []) (lenOf pd9 rfl) rfl (by show 2 * 0 + _ ≤ _; exact Nat.le_of_eq rfl) (hb hby at_147) (fun _ _ => ⟨rfl, e52, (by decide : 2 + 0 ≤ _), (by decide : 13 + 0 ≤ _)⟩)
        dsimp only [Pt.U, Pt.locs, Pt.cells, Pt.slots] at X64 l64 y64 z64 st64 hQ64
        subst l64 y64 z64
        obtain ⟨rfl, N64q, K64, f64_0, f64_1, f64_2, f64_3, f64_4, f64_5, f64_6⟩ := hQ64
        have N64 := Fr.app N52 N64q
        have Z65 : n0 ≤ T64.heap.size := Nat.le_trans Z51 K64.1
        obtain ⟨_, _, ⟨T66, L66, k66, n66⟩, -, X66, ⟨Lc66, hQ66, l66, y66, z66⟩, st66⟩ := Jvm.LawKit.callS X64 hx (y := (⟨oL, "doPolls", "(Lcom/example/portunus/portunus/policy/Run;I)V"⟩ : MethodName)) hown (mvT hZ (ow hw 54 rfl)) (mvT hZ (ow hw 55 rfl)) (mvT hZ (ow hw 47 rfl)) (mvT hZ (ow hw 56 rfl)) (by decide) (backOf (W := 0) (rm10n l Z a0 hw [] b43 nv tk_46 ((0 : Int32) + (1 : Int32)) ((0 : Int32) + mv) (0 : Int32) kt_47 T64.heap n0 Z65 f64_0 f64_1 f64_2 f64_3 f64_4 f64_5 f64_6 gn_b43 u45_0 ne49 hn4 (own_nz1 hm4)) hZ (ow hw 56 rfl) (ow hw 47 rfl) (by decide) (by decide)) (g := (mkF m 154 #[.val (.int p0), .val (.int p1), .val (.int p2), .val (.int p3), .val (.int (0 : Int32)), .val (.int (own_b (¬ ((p0 &&& (2 : Int32)) = (0 : Int32))))), .val (.int (1 : Int32)), .val (.int mv), .val (.int nv), .val (.ref b43), .val (.int (own_b ((0 : Int32) < ((0 : Int32) + (1 : Int32))))), .unset] [(.int nv), (.ref b43)])) rfl (by rw [hml]; rfl) (argsL := [(.ref b43), (.int nv)]) (rest := []) (lenOf pd9 rfl) rfl (by show 2 * 0 + _ ≤ _; exact Nat.le_of_eq rfl) (hb hby at_154) (fun _ _ => ⟨rfl, rfl, (by decide : 2 + 0 ≤ _), (by decide : 13 + 0 ≤ _)⟩)
        dsimp only [Pt.U, Pt.locs, Pt.cells, Pt.slots] at X66 l66 y66 z66 st66 hQ66
        subst l66 y66 z66
        obtain ⟨fn_67, rfl, N66q, K66, f66_0, f66_1, f66_2, f66_3, f66_4, f66_5, f66_6⟩ := hQ66
        have N66 := Fr.app N64 N66q
        have Z68 : n0 ≤ T66.heap.size := Nat.le_trans Z65 K66.1
        obtain ⟨cq69, kq69, q69a, q69b, q69c⟩ := isOf hZ rfl f66_0
        obtain ⟨_, _, ⟨T69, L69, k69, n69⟩, -, X69, ⟨Lc69, hQ69, l69, y69, z69⟩, st69⟩ := X66.virtualBack hx (y := (⟨oR, "hasOther", "()Z"⟩ : MethodName)) (z := (⟨oR, "hasOther", "()Z"⟩ : MethodName)) hown (mvT hZ (ow hw 38 rfl)) (mvT hZ (ow hw 39 rfl)) (notFace_of_selects (args := #[]) (mvT hZ (ow hw 41 rfl))) (mvT hZ (ow hw 41 rfl)) (mvT hZ (ow hw 40 rfl)) (by decide) (backOf (W := 0) (rm7 l Z a0 hw [] b43 (own_ps ((0 : Int32) + mv) ((0 : Int32) + (1 : Int32)) nv) (own_pl ((0 : Int32) + mv) nv) T66.heap n0 Z68 f66_3 f66_4) hZ (ow hw 42 rfl) (ow hw 7 rfl) (by decide) (by decide)) q69a q69c (g := (mkF m 159 #[.val (.int p0), .val (.int p1), .val (.int p2), .val (.int p3), .val (.int (0 : Int32)), .val (.int (own_b (¬ ((p0 &&& (2 : Int32)) = (0 : Int32))))), .val (.int (1 : Int32)), .val (.int mv), .val (.int nv), .val (.ref b43), .val (.int (own_b ((0 : Int32) < ((0 : Int32) + (1 : Int32))))), .unset] [(.ref b43)])) rfl (by rw [hml]; rfl) (Steps.refl _) (argsL := []) (rest := []) (lenOf pd8 rfl) rfl (by show 2 * 0 + _ ≤ _; exact Nat.le_of_eq rfl) (hb hby at_159) (fun _ _ => ⟨rfl, rfl, (by decide : 2 + 0 ≤ _), (by decide : 13 + 0 ≤ _)⟩)
        dsimp only [Pt.U, Pt.locs, Pt.cells, Pt.slots] at X69 l69 y69 z69 st69 hQ69
        subst l69 y69 z69
        obtain ⟨rfl, N69q, e69⟩ := hQ69
        have N69 := Fr.app N66 N69q
        have pre70 : ∀ tZ, Steps p.tables e below (T69.setTop (mkF m 189 #[.val (.int p0), .val (.int p1), .val (.int p2), .val (.int p3), .val (.int (0 : Int32)), .val (.int (own_b (¬ ((p0 &&& (2 : Int32)) = (0 : Int32))))), .val (.int (1 : Int32)), .val (.int mv), .val (.int nv), .val (.ref b43), .val (.int (own_b ((0 : Int32) < ((0 : Int32) + (1 : Int32))))), .val (.int (own_b ((own_pl ((0 : Int32) + mv) nv) < (own_ps ((0 : Int32) + mv) ((0 : Int32) + (1 : Int32)) nv))))] [(.int (((1 : Int32) - mv) - nv)), (.int (own_b ((own_pl ((0 : Int32) + mv) nv) < (own_ps ((0 : Int32) + mv) ((0 : Int32) + (1 : Int32)) nv))))])) tZ → Steps p.tables e below (s₁.setTop (entryFrame m #[(.int p0), (.int p1), (.int p2), (.int p3)] maxLocals)) tZ := fun tZ kZ => pre53 tZ (by
          show Steps p.tables e below (T52.setTop (mkF m 123 #[.val (.int p0), .val (.int p1), .val (.int p2), .val (.int p3), .val (.int (0 : Int32)), .val (.int (own_b (¬ ((p0 &&& (2 : Int32)) = (0 : Int32))))), .val (.int (1 : Int32)), .val (.int mv), .val (.int nv), .val (.ref b43), .val (.int (own_b ((0 : Int32) < ((0 : Int32) + (1 : Int32))))), .unset] [(.int (own_b (¬ ((p0 &&& (2 : Int32)) = (0 : Int32)))))])) _
          refine XS.ifYes X52.here hx rfl (pc0 := 123) (pc' := 143) rfl (hb hby at_123) rfl ((if0 _ _).trans (teq (own_b_f hc54)).1) (by decide) (by decide) ?_
          show Steps p.tables e below (T52.setTop (mkF m 143 #[.val (.int p0), .val (.int p1), .val (.int p2), .val (.int p3), .val (.int (0 : Int32)), .val (.int (own_b (¬ ((p0 &&& (2 : Int32)) = (0 : Int32))))), .val (.int (1 : Int32)), .val (.int mv), .val (.int nv), .val (.ref b43), .val (.int (own_b ((0 : Int32) < ((0 : Int32) + (1 : Int32))))), .unset] [])) _
          refine XS.aload X52.here hx rfl (hb hby at_143) rfl rfl ?_
          show Steps p.tables e below (T52.setTop (mkF m 145 #[.val (.int p0), .val (.int p1), .val (.int p2), .val (.int p3), .val (.int (0 : Int32)), .val (.int (own_b (¬ ((p0 &&& (2 : Int32)) = (0 : Int32))))), .val (.int (1 : Int32)), .val (.int mv), .val (.int nv), .val (.ref b43), .val (.int (own_b ((0 : Int32) < ((0 : Int32) + (1 : Int32))))), .unset] [(.ref b43)])) _
          refine XS.iload X52.here hx rfl (hb hby at_145) rfl  ?_
          show Steps p.tables e below (T52.setTop (mkF m 147 #[.val (.int p0), .val (.int p1), .val (.int p2), .val (.int p3), .val (.int (0 : Int32)), .val (.int (own_b (¬ ((p0 &&& (2 : Int32)) = (0 : Int32))))), .val (.int (1 : Int32)), .val (.int mv), .val (.int nv), .val (.ref b43), .val (.int (own_b ((0 : Int32) < ((0 : Int32) + (1 : Int32))))), .unset] [(.int mv), (.ref b43)])) _
          refine st64 _ ?_
          show Steps p.tables e below (T64.setTop (mkF m 150 #[.val (.int p0), .val (.int p1), .val (.int p2), .val (.int p3), .val (.int (0 : Int32)), .val (.int (own_b (¬ ((p0 &&& (2 : Int32)) = (0 : Int32))))), .val (.int (1 : Int32)), .val (.int mv), .val (.int nv), .val (.ref b43), .val (.int (own_b ((0 : Int32) < ((0 : Int32) + (1 : Int32))))), .unset] [])) _
          refine XS.aload X64.here hx rfl (hb hby at_150) rfl rfl ?_
          show Steps p.tables e below (T64.setTop (mkF m 152 #[.val (.int p0), .val (.int p1), .val (.int p2), .val (.int p3), .val (.int (0 : Int32)), .val (.int (own_b (¬ ((p0 &&& (2 : Int32)) = (0 : Int32))))), .val (.int (1 : Int32)), .val (.int mv), .val (.int nv), .val (.ref b43), .val (.int (own_b ((0 : Int32) < ((0 : Int32) + (1 : Int32))))), .unset] [(.ref b43)])) _
          refine XS.iload X64.here hx rfl (hb hby at_152) rfl  ?_
          show Steps p.tables e below (T64.setTop (mkF m 154 #[.val (.int p0), .val (.int p1), .val (.int p2), .val (.int p3), .val (.int (0 : Int32)), .val (.int (own_b (¬ ((p0 &&& (2 : Int32)) = (0 : Int32))))), .val (.int (1 : Int32)), .val (.int mv), .val (.int nv), .val (.ref b43), .val (.int (own_b ((0 : Int32) < ((0 : Int32) + (1 : Int32))))), .unset] [(.int nv), (.ref b43)])) _
          refine st66 _ ?_
          show Steps p.tables e below (T66.setTop (mkF m 157 #[.val (.int p0), .val (.int p1), .val (.int p2), .val (.int p3), .val (.int (0 : Int32)), .val (.int (own_b (¬ ((p0 &&& (2 : Int32)) = (0 : Int32))))), .val (.int (1 : Int32)), .val (.int mv), .val (.int nv), .val (.ref b43), .val (.int (own_b ((0 : Int32) < ((0 : Int32) + (1 : Int32))))), .unset] [])) _
          refine XS.aload X66.here hx rfl (hb hby at_157) rfl rfl ?_
          show Steps p.tables e below (T66.setTop (mkF m 159 #[.val (.int p0), .val (.int p1), .val (.int p2), .val (.int p3), .val (.int (0 : Int32)), .val (.int (own_b (¬ ((p0 &&& (2 : Int32)) = (0 : Int32))))), .val (.int (1 : Int32)), .val (.int mv), .val (.int nv), .val (.ref b43), .val (.int (own_b ((0 : Int32) < ((0 : Int32) + (1 : Int32))))), .unset] [(.ref b43)])) _
          refine st69.trans ?_
          show Steps p.tables e below (T69.setTop (mkF m 162 #[.val (.int p0), .val (.int p1), .val (.int p2), .val (.int p3), .val (.int (0 : Int32)), .val (.int (own_b (¬ ((p0 &&& (2 : Int32)) = (0 : Int32))))), .val (.int (1 : Int32)), .val (.int mv), .val (.int nv), .val (.ref b43), .val (.int (own_b ((0 : Int32) < ((0 : Int32) + (1 : Int32))))), .unset] [(.int (own_b ((own_pl ((0 : Int32) + mv) nv) < (own_ps ((0 : Int32) + mv) ((0 : Int32) + (1 : Int32)) nv))))])) _
          refine XS.istore X69.here hx rfl (hb hby at_162) rfl (l' := #[.val (.int p0), .val (.int p1), .val (.int p2), .val (.int p3), .val (.int (0 : Int32)), .val (.int (own_b (¬ ((p0 &&& (2 : Int32)) = (0 : Int32))))), .val (.int (1 : Int32)), .val (.int mv), .val (.int nv), .val (.ref b43), .val (.int (own_b ((0 : Int32) < ((0 : Int32) + (1 : Int32))))), .val (.int (own_b ((own_pl ((0 : Int32) + mv) nv) < (own_ps ((0 : Int32) + mv) ((0 : Int32) + (1 : Int32)) nv))))]) rfl ?_
          show Steps p.tables e below (T69.setTop (mkF m 164 #[.val (.int p0), .val (.int p1), .val (.int p2), .val (.int p3), .val (.int (0 : Int32)), .val (.int (own_b (¬ ((p0 &&& (2 : Int32)) = (0 : Int32))))), .val (.int (1 : Int32)), .val (.int mv), .val (.int nv), .val (.ref b43), .val (.int (own_b ((0 : Int32) < ((0 : Int32) + (1 : Int32))))), .val (.int (own_b ((own_pl ((0 : Int32) + mv) nv) < (own_ps ((0 : Int32) + mv) ((0 : Int32) + (1 : Int32)) nv))))] [])) _
          refine XS.iload X69.here hx rfl (hb hby at_164) rfl  ?_
          show Steps p.tables e below (T69.setTop (mkF m 166 #[.val (.int p0), .val (.int p1), .val (.int p2), .val (.int p3), .val (.int (0 : Int32)), .val (.int (own_b (¬ ((p0 &&& (2 : Int32)) = (0 : Int32))))), .val (.int (1 : Int32)), .val (.int mv), .val (.int nv), .val (.ref b43), .val (.int (own_b ((0 : Int32) < ((0 : Int32) + (1 : Int32))))), .val (.int (own_b ((own_pl ((0 : Int32) + mv) nv) < (own_ps ((0 : Int32) + mv) ((0 : Int32) + (1 : Int32)) nv))))] [(.int (own_b ((0 : Int32) < ((0 : Int32) + (1 : Int32)))))])) _
          refine XS.iload X69.here hx rfl (hb hby at_166) rfl  ?_
          show Steps p.tables e below (T69.setTop (mkF m 168 #[.val (.int p0), .val (.int p1), .val (.int p2), .val (.int p3), .val (.int (0 : Int32)), .val (.int (own_b (¬ ((p0 &&& (2 : Int32)) = (0 : Int32))))), .val (.int (1 : Int32)), .val (.int mv), .val (.int nv), .val (.ref b43), .val (.int (own_b ((0 : Int32) < ((0 : Int32) + (1 : Int32))))), .val (.int (own_b ((own_pl ((0 : Int32) + mv) nv) < (own_ps ((0 : Int32) + mv) ((0 : Int32) + (1 : Int32)) nv))))] [(.int (1 : Int32)), (.int (own_b ((0 : Int32) < ((0 : Int32) + (1 : Int32)))))])) _
          refine XS.ifNo X69.here hx rfl (hb hby at_168) rfl ((if0 _ _).trans (tlt (by decide)).2.2.2) ?_
          show Steps p.tables e below (T69.setTop (mkF m 171 #[.val (.int p0), .val (.int p1), .val (.int p2), .val (.int p3), .val (.int (0 : Int32)), .val (.int (own_b (¬ ((p0 &&& (2 : Int32)) = (0 : Int32))))), .val (.int (1 : Int32)), .val (.int mv), .val (.int nv), .val (.ref b43), .val (.int (own_b ((0 : Int32) < ((0 : Int32) + (1 : Int32))))), .val (.int (own_b ((own_pl ((0 : Int32) + mv) nv) < (own_ps ((0 : Int32) + mv) ((0 : Int32) + (1 : Int32)) nv))))] [(.int (own_b ((0 : Int32) < ((0 : Int32) + (1 : Int32)))))])) _
          refine XS.iconst X69.here hx rfl (hb hby at_171) ?_
          show Steps p.tables e below (T69.setTop (mkF m 172 #[.val (.int p0), .val (.int p1), .val (.int p2), .val (.int p3), .val (.int (0 : Int32)), .val (.int (own_b (¬ ((p0 &&& (2 : Int32)) = (0 : Int32))))), .val (.int (1 : Int32)), .val (.int mv), .val (.int nv), .val (.ref b43), .val (.int (own_b ((0 : Int32) < ((0 : Int32) + (1 : Int32))))), .val (.int (own_b ((own_pl ((0 : Int32) + mv) nv) < (own_ps ((0 : Int32) + mv) ((0 : Int32) + (1 : Int32)) nv))))] [(.int (1 : Int32)), (.int (own_b ((0 : Int32) < ((0 : Int32) + (1 : Int32)))))])) _
          refine XS.goto X69.here hx rfl (pc0 := 172) (pc' := 176) rfl (hb hby at_172) (by decide) (by decide) ?_
          show Steps p.tables e below (T69.setTop (mkF m 176 #[.val (.int p0), .val (.int p1), .val (.int p2), .val (.int p3), .val (.int (0 : Int32)), .val (.int (own_b (¬ ((p0 &&& (2 : Int32)) = (0 : Int32))))), .val (.int (1 : Int32)), .val (.int mv), .val (.int nv), .val (.ref b43), .val (.int (own_b ((0 : Int32) < ((0 : Int32) + (1 : Int32))))), .val (.int (own_b ((own_pl ((0 : Int32) + mv) nv) < (own_ps ((0 : Int32) + mv) ((0 : Int32) + (1 : Int32)) nv))))] [(.int (1 : Int32)), (.int (own_b ((0 : Int32) < ((0 : Int32) + (1 : Int32)))))])) _
          refine XS.icmpNo X69.here hx rfl (hb hby at_176) rfl (teq (by decide)).2 ?_
          show Steps p.tables e below (T69.setTop (mkF m 179 #[.val (.int p0), .val (.int p1), .val (.int p2), .val (.int p3), .val (.int (0 : Int32)), .val (.int (own_b (¬ ((p0 &&& (2 : Int32)) = (0 : Int32))))), .val (.int (1 : Int32)), .val (.int mv), .val (.int nv), .val (.ref b43), .val (.int (own_b ((0 : Int32) < ((0 : Int32) + (1 : Int32))))), .val (.int (own_b ((own_pl ((0 : Int32) + mv) nv) < (own_ps ((0 : Int32) + mv) ((0 : Int32) + (1 : Int32)) nv))))] [])) _
          refine XS.iload X69.here hx rfl (hb hby at_179) rfl  ?_
          show Steps p.tables e below (T69.setTop (mkF m 181 #[.val (.int p0), .val (.int p1), .val (.int p2), .val (.int p3), .val (.int (0 : Int32)), .val (.int (own_b (¬ ((p0 &&& (2 : Int32)) = (0 : Int32))))), .val (.int (1 : Int32)), .val (.int mv), .val (.int nv), .val (.ref b43), .val (.int (own_b ((0 : Int32) < ((0 : Int32) + (1 : Int32))))), .val (.int (own_b ((own_pl ((0 : Int32) + mv) nv) < (own_ps ((0 : Int32) + mv) ((0 : Int32) + (1 : Int32)) nv))))] [(.int (own_b ((own_pl ((0 : Int32) + mv) nv) < (own_ps ((0 : Int32) + mv) ((0 : Int32) + (1 : Int32)) nv))))])) _
          refine XS.iload X69.here hx rfl (hb hby at_181) rfl  ?_
          show Steps p.tables e below (T69.setTop (mkF m 183 #[.val (.int p0), .val (.int p1), .val (.int p2), .val (.int p3), .val (.int (0 : Int32)), .val (.int (own_b (¬ ((p0 &&& (2 : Int32)) = (0 : Int32))))), .val (.int (1 : Int32)), .val (.int mv), .val (.int nv), .val (.ref b43), .val (.int (own_b ((0 : Int32) < ((0 : Int32) + (1 : Int32))))), .val (.int (own_b ((own_pl ((0 : Int32) + mv) nv) < (own_ps ((0 : Int32) + mv) ((0 : Int32) + (1 : Int32)) nv))))] [(.int (1 : Int32)), (.int (own_b ((own_pl ((0 : Int32) + mv) nv) < (own_ps ((0 : Int32) + mv) ((0 : Int32) + (1 : Int32)) nv))))])) _
          refine XS.iload X69.here hx rfl (hb hby at_183) rfl  ?_
          show Steps p.tables e below (T69.setTop (mkF m 185 #[.val (.int p0), .val (.int p1), .val (.int p2), .val (.int p3), .val (.int (0 : Int32)), .val (.int (own_b (¬ ((p0 &&& (2 : Int32)) = (0 : Int32))))), .val (.int (1 : Int32)), .val (.int mv), .val (.int nv), .val (.ref b43), .val (.int (own_b ((0 : Int32) < ((0 : Int32) + (1 : Int32))))), .val (.int (own_b ((own_pl ((0 : Int32) + mv) nv) < (own_ps ((0 : Int32) + mv) ((0 : Int32) + (1 : Int32)) nv))))] [(.int mv), (.int (1 : Int32)), (.int (own_b ((own_pl ((0 : Int32) + mv) nv) < (own_ps ((0 : Int32) + mv) ((0 : Int32) + (1 : Int32)) nv))))])) _
          refine XS.isub X69.here hx rfl (hb hby at_185) rfl ?_
          show Steps p.tables e below (T69.setTop (mkF m 186 #[.val (.int p0), .val (.int p1), .val (.int p2), .val (.int p3), .val (.int (0 : Int32)), .val (.int (own_b (¬ ((p0 &&& (2 : Int32)) = (0 : Int32))))), .val (.int (1 : Int32)), .val (.int mv), .val (.int nv), .val (.ref b43), .val (.int (own_b ((0 : Int32) < ((0 : Int32) + (1 : Int32))))), .val (.int (own_b ((own_pl ((0 : Int32) + mv) nv) < (own_ps ((0 : Int32) + mv) ((0 : Int32) + (1 : Int32)) nv))))] [(.int ((1 : Int32) - mv)), (.int (own_b ((own_pl ((0 : Int32) + mv) nv) < (own_ps ((0 : Int32) + mv) ((0 : Int32) + (1 : Int32)) nv))))])) _
          refine XS.iload X69.here hx rfl (hb hby at_186) rfl  ?_
          show Steps p.tables e below (T69.setTop (mkF m 188 #[.val (.int p0), .val (.int p1), .val (.int p2), .val (.int p3), .val (.int (0 : Int32)), .val (.int (own_b (¬ ((p0 &&& (2 : Int32)) = (0 : Int32))))), .val (.int (1 : Int32)), .val (.int mv), .val (.int nv), .val (.ref b43), .val (.int (own_b ((0 : Int32) < ((0 : Int32) + (1 : Int32))))), .val (.int (own_b ((own_pl ((0 : Int32) + mv) nv) < (own_ps ((0 : Int32) + mv) ((0 : Int32) + (1 : Int32)) nv))))] [(.int nv), (.int ((1 : Int32) - mv)), (.int (own_b ((own_pl ((0 : Int32) + mv) nv) < (own_ps ((0 : Int32) + mv) ((0 : Int32) + (1 : Int32)) nv))))])) _
          refine XS.isub X69.here hx rfl (hb hby at_188) rfl ?_
          exact kZ)
        have pre72 : ∀ tZ, Steps p.tables e below (T69.setTop (mkF m 197 #[.val (.int p0), .val (.int p1), .val (.int p2), .val (.int p3), .val (.int (0 : Int32)), .val (.int (own_b (¬ ((p0 &&& (2 : Int32)) = (0 : Int32))))), .val (.int (1 : Int32)), .val (.int mv), .val (.int nv), .val (.ref b43), .val (.int (own_b ((0 : Int32) < ((0 : Int32) + (1 : Int32))))), .val (.int (own_b ((own_pl ((0 : Int32) + mv) nv) < (own_ps ((0 : Int32) + mv) ((0 : Int32) + (1 : Int32)) nv))))] [(.int (own_b ((0 : Int32) < (((1 : Int32) - mv) - nv)))), (.int (own_b ((own_pl ((0 : Int32) + mv) nv) < (own_ps ((0 : Int32) + mv) ((0 : Int32) + (1 : Int32)) nv))))])) tZ → Steps p.tables e below (s₁.setTop (entryFrame m #[(.int p0), (.int p1), (.int p2), (.int p3)] maxLocals)) tZ := fun tZ kZ => pre70 tZ (by
          by_cases hc71 : (0 : Int32) < (((1 : Int32) - mv) - nv)
          ·  -- yes
            show Steps p.tables e below (T69.setTop (mkF m 189 #[.val (.int p0), .val (.int p1), .val (.int p2), .val (.int p3), .val (.int (0 : Int32)), .val (.int (own_b (¬ ((p0 &&& (2 : Int32)) = (0 : Int32))))), .val (.int (1 : Int32)), .val (.int mv), .val (.int nv), .val (.ref b43), .val (.int (own_b ((0 : Int32) < ((0 : Int32) + (1 : Int32))))), .val (.int (own_b ((own_pl ((0 : Int32) + mv) nv) < (own_ps ((0 : Int32) + mv) ((0 : Int32) + (1 : Int32)) nv))))] [(.int (((1 : Int32) - mv) - nv)), (.int (own_b ((own_pl ((0 : Int32) + mv) nv) < (own_ps ((0 : Int32) + mv) ((0 : Int32) + (1 : Int32)) nv))))])) _
            refine XS.ifNo X69.here hx rfl (hb hby at_189) rfl ((if0 _ _).trans (tlt hc71).2.2.2) ?_
            show Steps p.tables e below (T69.setTop (mkF m 192 #[.val (.int p0), .val (.int p1), .val (.int p2), .val (.int p3), .val (.int (0 : Int32)), .val (.int (own_b (¬ ((p0 &&& (2 : Int32)) = (0 : Int32))))), .val (.int (1 : Int32)), .val (.int mv), .val (.int nv), .val (.ref b43), .val (.int (own_b ((0 : Int32) < ((0 : Int32) + (1 : Int32))))), .val (.int (own_b ((own_pl ((0 : Int32) + mv) nv) < (own_ps ((0 : Int32) + mv) ((0 : Int32) + (1 : Int32)) nv))))] [(.int (own_b ((own_pl ((0 : Int32) + mv) nv) < (own_ps ((0 : Int32) + mv) ((0 : Int32) + (1 : Int32)) nv))))])) _
            refine XS.iconst X69.here hx rfl (hb hby at_192) ?_
            show Steps p.tables e below (T69.setTop (mkF m 193 #[.val (.int p0), .val (.int p1), .val (.int p2), .val (.int p3), .val (.int (0 : Int32)), .val (.int (own_b (¬ ((p0 &&& (2 : Int32)) = (0 : Int32))))), .val (.int (1 : Int32)), .val (.int mv), .val (.int nv), .val (.ref b43), .val (.int (own_b ((0 : Int32) < ((0 : Int32) + (1 : Int32))))), .val (.int (own_b ((own_pl ((0 : Int32) + mv) nv) < (own_ps ((0 : Int32) + mv) ((0 : Int32) + (1 : Int32)) nv))))] [(.int (1 : Int32)), (.int (own_b ((own_pl ((0 : Int32) + mv) nv) < (own_ps ((0 : Int32) + mv) ((0 : Int32) + (1 : Int32)) nv))))])) _
            refine XS.goto X69.here hx rfl (pc0 := 193) (pc' := 197) rfl (hb hby at_193) (by decide) (by decide) ?_
            have ekZ : (own_b ((0 : Int32) < (((1 : Int32) - mv) - nv))) = (1 : Int32) := by first | (simp only [own_b, eq_true hc71, and_true, true_and, and_false, false_and, or_true, true_or, or_false, false_or, not_true_eq_false, not_false_eq_true, if_true, if_false, reduceIte]; done) | (simp [own_b, hc71]; done)
            rw [ekZ] at kZ
            exact kZ
          ·  -- no
            show Steps p.tables e below (T69.setTop (mkF m 189 #[.val (.int p0), .val (.int p1), .val (.int p2), .val (.int p3), .val (.int (0 : Int32)), .val (.int (own_b (¬ ((p0 &&& (2 : Int32)) = (0 : Int32))))), .val (.int (1 : Int32)), .val (.int mv), .val (.int nv), .val (.ref b43), .val (.int (own_b ((0 : Int32) < ((0 : Int32) + (1 : Int32))))), .val (.int (own_b ((own_pl ((0 : Int32) + mv) nv) < (own_ps ((0 : Int32) + mv) ((0 : Int32) + (1 : Int32)) nv))))] [(.int (((1 : Int32) - mv) - nv)), (.int (own_b ((own_pl ((0 : Int32) + mv) nv) < (own_ps ((0 : Int32) + mv) ((0 : Int32) + (1 : Int32)) nv))))])) _
            refine XS.ifYes X69.here hx rfl (pc0 := 189) (pc' := 196) rfl (hb hby at_189) rfl ((if0 _ _).trans (flt hc71).2.2.2) (by decide) (by decide) ?_
            show Steps p.tables e below (T69.setTop (mkF m 196 #[.val (.int p0), .val (.int p1), .val (.int p2), .val (.int p3), .val (.int (0 : Int32)), .val (.int (own_b (¬ ((p0 &&& (2 : Int32)) = (0 : Int32))))), .val (.int (1 : Int32)), .val (.int mv), .val (.int nv), .val (.ref b43), .val (.int (own_b ((0 : Int32) < ((0 : Int32) + (1 : Int32))))), .val (.int (own_b ((own_pl ((0 : Int32) + mv) nv) < (own_ps ((0 : Int32) + mv) ((0 : Int32) + (1 : Int32)) nv))))] [(.int (own_b ((own_pl ((0 : Int32) + mv) nv) < (own_ps ((0 : Int32) + mv) ((0 : Int32) + (1 : Int32)) nv))))])) _
            refine XS.iconst X69.here hx rfl (hb hby at_196) ?_
            have ekZ : (own_b ((0 : Int32) < (((1 : Int32) - mv) - nv))) = (0 : Int32) := by first | (simp only [own_b, eq_false hc71, and_true, true_and, and_false, false_and, or_true, true_or, or_false, false_or, not_true_eq_false, not_false_eq_true, if_true, if_false, reduceIte]; done) | (simp [own_b, hc71]; done)
            rw [ekZ] at kZ
            exact kZ)
        obtain ⟨fsZ, hrZ, hrun, hended, hW, hsame⟩ := X69.leave (v := some (.int (1 : Int32))) (fun h => by rw [Bd.returns] at h; cases h)
        refine ⟨_, _, pre72 _ ?_, hrun, hended, _, _, rfl, ?_, ⟨_, rfl⟩, hW, hsame.mono (by decide) (by decide)⟩
        · show Steps p.tables e below (T69.setTop (mkF m 197 #[.val (.int p0), .val (.int p1), .val (.int p2), .val (.int p3), .val (.int (0 : Int32)), .val (.int (own_b (¬ ((p0 &&& (2 : Int32)) = (0 : Int32))))), .val (.int (1 : Int32)), .val (.int mv), .val (.int nv), .val (.ref b43), .val (.int (own_b ((0 : Int32) < ((0 : Int32) + (1 : Int32))))), .val (.int (own_b ((own_pl ((0 : Int32) + mv) nv) < (own_ps ((0 : Int32) + mv) ((0 : Int32) + (1 : Int32)) nv))))] [(.int (own_b ((0 : Int32) < (((1 : Int32) - mv) - nv)))), (.int (own_b ((own_pl ((0 : Int32) + mv) nv) < (own_ps ((0 : Int32) + mv) ((0 : Int32) + (1 : Int32)) nv))))])) _
          refine XS.icmpNo X69.here hx rfl (hb hby at_197) rfl (teq (own_fin_m (by decide) hm4 hn4 hm3.2.2 hn3.2.2)).2 ?_
          show Steps p.tables e below (T69.setTop (mkF m 200 #[.val (.int p0), .val (.int p1), .val (.int p2), .val (.int p3), .val (.int (0 : Int32)), .val (.int (own_b (¬ ((p0 &&& (2 : Int32)) = (0 : Int32))))), .val (.int (1 : Int32)), .val (.int mv), .val (.int nv), .val (.ref b43), .val (.int (own_b ((0 : Int32) < ((0 : Int32) + (1 : Int32))))), .val (.int (own_b ((own_pl ((0 : Int32) + mv) nv) < (own_ps ((0 : Int32) + mv) ((0 : Int32) + (1 : Int32)) nv))))] [])) _
          refine XS.iconst X69.here hx rfl (hb hby at_200) ?_
          show Steps p.tables e below (T69.setTop (mkF m 201 #[.val (.int p0), .val (.int p1), .val (.int p2), .val (.int p3), .val (.int (0 : Int32)), .val (.int (own_b (¬ ((p0 &&& (2 : Int32)) = (0 : Int32))))), .val (.int (1 : Int32)), .val (.int mv), .val (.int nv), .val (.ref b43), .val (.int (own_b ((0 : Int32) < ((0 : Int32) + (1 : Int32))))), .val (.int (own_b ((own_pl ((0 : Int32) + mv) nv) < (own_ps ((0 : Int32) + mv) ((0 : Int32) + (1 : Int32)) nv))))] [(.int (1 : Int32))])) _
          refine XS.goto X69.here hx rfl (pc0 := 201) (pc' := 205) rfl (hb hby at_201) (by decide) (by decide) ?_
          show Steps p.tables e below (T69.setTop (mkF m 205 #[.val (.int p0), .val (.int p1), .val (.int p2), .val (.int p3), .val (.int (0 : Int32)), .val (.int (own_b (¬ ((p0 &&& (2 : Int32)) = (0 : Int32))))), .val (.int (1 : Int32)), .val (.int mv), .val (.int nv), .val (.ref b43), .val (.int (own_b ((0 : Int32) < ((0 : Int32) + (1 : Int32))))), .val (.int (own_b ((own_pl ((0 : Int32) + mv) nv) < (own_ps ((0 : Int32) + mv) ((0 : Int32) + (1 : Int32)) nv))))] [(.int (1 : Int32))])) _
          exact retN X69 hx (t := .boolean) Bd.returns (by simp) (hb hby at_205) hrZ
        · show Q0 Z p0 p1 p2 p3 h0 n0 _ T69.heap _
          rw [e69]
          exact ⟨rfl, N69⟩
    ·  -- a = 2
      obtain ⟨_, _, ⟨T73, L73, k73, n73⟩, -, X73, ⟨Lc73, hQ73, l73, y73, z73⟩, st73⟩ := Jvm.LawKit.callS X0 hx (y := (⟨"java/lang/Math", "min", "(II)I"⟩ : MethodName)) hown (mvT hZ (ow hw 1 rfl)) (mvT hZ (ow hw 2 rfl)) (mvT hZ (ow hw 3 rfl)) (mvT hZ (ow hw 4 rfl)) (by decide) (backOf (W := 0) (rm1 l Z a0 hw [] ((p2 &&& (2147483647 : Int32)) % (3 : Int32)) (2 : Int32) h0 n0 Z0 ) hZ (ow hw 4 rfl) (ow hw 3 rfl) (by decide) (by decide)) (g := (mkF m 39 #[.val (.int p0), .val (.int p1), .val (.int p2), .val (.int p3), .val (.int (0 : Int32)), .val (.int (own_b (¬ ((p0 &&& (2 : Int32)) = (0 : Int32))))), .val (.int (2 : Int32)), .unset, .unset, .unset, .unset, .unset] [(.int (2 : Int32)), (.int ((p2 &&& (2147483647 : Int32)) % (3 : Int32)))])) rfl (by rw [hml]; rfl) (argsL := [(.int ((p2 &&& (2147483647 : Int32)) % (3 : Int32))), (.int (2 : Int32))]) (rest := []) (lenOf pd6 rfl) rfl (by show 2 * 0 + _ ≤ _; exact Nat.le_of_eq rfl) (hb hby at_39) (fun _ _ => ⟨rfl, e0, (by decide : 0 + 0 ≤ _), (by decide : 0 + 0 ≤ _)⟩)
      dsimp only [Pt.U, Pt.locs, Pt.cells, Pt.slots] at X73 l73 y73 z73 st73 hQ73
      subst l73 y73 z73
      obtain ⟨rfl, N73q, e73⟩ := hQ73
      have N73 := Fr.app N0 N73q
      have pre74 : ∀ tZ, Steps p.tables e below (T73.setTop (mkF m 44 #[.val (.int p0), .val (.int p1), .val (.int p2), .val (.int p3), .val (.int (0 : Int32)), .val (.int (own_b (¬ ((p0 &&& (2 : Int32)) = (0 : Int32))))), .val (.int (2 : Int32)), .val (.int (if (2 : Int32) < ((p2 &&& (2147483647 : Int32)) % (3 : Int32)) then (2 : Int32) else ((p2 &&& (2147483647 : Int32)) % (3 : Int32)))), .unset, .unset, .unset, .unset] [])) tZ → Steps p.tables e below (s₁.setTop (entryFrame m #[(.int p0), (.int p1), (.int p2), (.int p3)] maxLocals)) tZ := fun tZ kZ => pre6 tZ (by
        show Steps p.tables e below (s₁.setTop (mkF m 31 #[.val (.int p0), .val (.int p1), .val (.int p2), .val (.int p3), .val (.int (0 : Int32)), .val (.int (own_b (¬ ((p0 &&& (2 : Int32)) = (0 : Int32))))), .val (.int (2 : Int32)), .unset, .unset, .unset, .unset, .unset] [])) _
        refine XS.iloadN X0.here hx rfl (hb hby at_31) rfl  ?_
        show Steps p.tables e below (s₁.setTop (mkF m 32 #[.val (.int p0), .val (.int p1), .val (.int p2), .val (.int p3), .val (.int (0 : Int32)), .val (.int (own_b (¬ ((p0 &&& (2 : Int32)) = (0 : Int32))))), .val (.int (2 : Int32)), .unset, .unset, .unset, .unset, .unset] [(.int p2)])) _
        refine X0.ldcInt hx hown (mvT hZ (ow hw 0 rfl)) (g := (mkF m 32 #[.val (.int p0), .val (.int p1), .val (.int p2), .val (.int p3), .val (.int (0 : Int32)), .val (.int (own_b (¬ ((p0 &&& (2 : Int32)) = (0 : Int32))))), .val (.int (2 : Int32)), .unset, .unset, .unset, .unset, .unset] [(.int p2)])) rfl (hb hby at_32) _ ?_
        show Steps p.tables e below (s₁.setTop (mkF m 34 #[.val (.int p0), .val (.int p1), .val (.int p2), .val (.int p3), .val (.int (0 : Int32)), .val (.int (own_b (¬ ((p0 &&& (2 : Int32)) = (0 : Int32))))), .val (.int (2 : Int32)), .unset, .unset, .unset, .unset, .unset] [(.int (2147483647 : Int32)), (.int p2)])) _
        refine XS.iand X0.here hx rfl (hb hby at_34) rfl ?_
        show Steps p.tables e below (s₁.setTop (mkF m 35 #[.val (.int p0), .val (.int p1), .val (.int p2), .val (.int p3), .val (.int (0 : Int32)), .val (.int (own_b (¬ ((p0 &&& (2 : Int32)) = (0 : Int32))))), .val (.int (2 : Int32)), .unset, .unset, .unset, .unset, .unset] [(.int (p2 &&& (2147483647 : Int32)))])) _
        refine XS.iconst X0.here hx rfl (hb hby at_35) ?_
        show Steps p.tables e below (s₁.setTop (mkF m 36 #[.val (.int p0), .val (.int p1), .val (.int p2), .val (.int p3), .val (.int (0 : Int32)), .val (.int (own_b (¬ ((p0 &&& (2 : Int32)) = (0 : Int32))))), .val (.int (2 : Int32)), .unset, .unset, .unset, .unset, .unset] [(.int (3 : Int32)), (.int (p2 &&& (2147483647 : Int32)))])) _
        refine iremM X0 hx rfl (hb hby at_36) rfl (by decide) ?_
        show Steps p.tables e below (s₁.setTop (mkF m 37 #[.val (.int p0), .val (.int p1), .val (.int p2), .val (.int p3), .val (.int (0 : Int32)), .val (.int (own_b (¬ ((p0 &&& (2 : Int32)) = (0 : Int32))))), .val (.int (2 : Int32)), .unset, .unset, .unset, .unset, .unset] [(.int ((p2 &&& (2147483647 : Int32)) % (3 : Int32)))])) _
        refine XS.iload X0.here hx rfl (hb hby at_37) rfl  ?_
        show Steps p.tables e below (s₁.setTop (mkF m 39 #[.val (.int p0), .val (.int p1), .val (.int p2), .val (.int p3), .val (.int (0 : Int32)), .val (.int (own_b (¬ ((p0 &&& (2 : Int32)) = (0 : Int32))))), .val (.int (2 : Int32)), .unset, .unset, .unset, .unset, .unset] [(.int (2 : Int32)), (.int ((p2 &&& (2147483647 : Int32)) % (3 : Int32)))])) _
        refine st73 _ ?_
        show Steps p.tables e below (T73.setTop (mkF m 42 #[.val (.int p0), .val (.int p1), .val (.int p2), .val (.int p3), .val (.int (0 : Int32)), .val (.int (own_b (¬ ((p0 &&& (2 : Int32)) = (0 : Int32))))), .val (.int (2 : Int32)), .unset, .unset, .unset, .unset, .unset] [(.int (if (2 : Int32) < ((p2 &&& (2147483647 : Int32)) % (3 : Int32)) then (2 : Int32) else ((p2 &&& (2147483647 : Int32)) % (3 : Int32))))])) _
        refine XS.istore X73.here hx rfl (hb hby at_42) rfl (l' := #[.val (.int p0), .val (.int p1), .val (.int p2), .val (.int p3), .val (.int (0 : Int32)), .val (.int (own_b (¬ ((p0 &&& (2 : Int32)) = (0 : Int32))))), .val (.int (2 : Int32)), .val (.int (if (2 : Int32) < ((p2 &&& (2147483647 : Int32)) % (3 : Int32)) then (2 : Int32) else ((p2 &&& (2147483647 : Int32)) % (3 : Int32)))), .unset, .unset, .unset, .unset]) rfl ?_
        exact kZ)
      obtain ⟨mv, hmv⟩ : ∃ z, z = (if (2 : Int32) < ((p2 &&& (2147483647 : Int32)) % (3 : Int32)) then (2 : Int32) else ((p2 &&& (2147483647 : Int32)) % (3 : Int32))) := ⟨_, rfl⟩
      rw [← hmv] at pre74
      have hm3 := own_min hmv (own_rem p2) (by decide)
      have hm4 := own_c3 hm3.1 hm3.2.1
      obtain ⟨_, _, ⟨T75, L75, k75, n75⟩, -, X75, ⟨Lc75, hQ75, l75, y75, z75⟩, st75⟩ := Jvm.LawKit.callS X73 hx (y := (⟨"java/lang/Math", "min", "(II)I"⟩ : MethodName)) hown (mvT hZ (ow hw 1 rfl)) (mvT hZ (ow hw 2 rfl)) (mvT hZ (ow hw 3 rfl)) (mvT hZ (ow hw 4 rfl)) (by decide) (backOf (W := 0) (rm1 l Z a0 hw [] ((p3 &&& (2147483647 : Int32)) % (3 : Int32)) ((2 : Int32) - mv) h0 n0 Z0 ) hZ (ow hw 4 rfl) (ow hw 3 rfl) (by decide) (by decide)) (g := (mkF m 55 #[.val (.int p0), .val (.int p1), .val (.int p2), .val (.int p3), .val (.int (0 : Int32)), .val (.int (own_b (¬ ((p0 &&& (2 : Int32)) = (0 : Int32))))), .val (.int (2 : Int32)), .val (.int mv), .unset, .unset, .unset, .unset] [(.int ((2 : Int32) - mv)), (.int ((p3 &&& (2147483647 : Int32)) % (3 : Int32)))])) rfl (by rw [hml]; rfl) (argsL := [(.int ((p3 &&& (2147483647 : Int32)) % (3 : Int32))), (.int ((2 : Int32) - mv))]) (rest := []) (lenOf pd6 rfl) rfl (by show 2 * 0 + _ ≤ _; exact Nat.le_of_eq rfl) (hb hby at_55) (fun _ _ => ⟨rfl, e73, (by decide : 0 + 0 ≤ _), (by decide : 0 + 0 ≤ _)⟩)
      dsimp only [Pt.U, Pt.locs, Pt.cells, Pt.slots] at X75 l75 y75 z75 st75 hQ75
      subst l75 y75 z75
      obtain ⟨rfl, N75q, e75⟩ := hQ75
      have N75 := Fr.app N73 N75q
      have pre76 : ∀ tZ, Steps p.tables e below (T75.setTop (mkF m 60 #[.val (.int p0), .val (.int p1), .val (.int p2), .val (.int p3), .val (.int (0 : Int32)), .val (.int (own_b (¬ ((p0 &&& (2 : Int32)) = (0 : Int32))))), .val (.int (2 : Int32)), .val (.int mv), .val (.int (if ((2 : Int32) - mv) < ((p3 &&& (2147483647 : Int32)) % (3 : Int32)) then ((2 : Int32) - mv) else ((p3 &&& (2147483647 : Int32)) % (3 : Int32)))), .unset, .unset, .unset] [])) tZ → Steps p.tables e below (s₁.setTop (entryFrame m #[(.int p0), (.int p1), (.int p2), (.int p3)] maxLocals)) tZ := fun tZ kZ => pre74 tZ (by
        show Steps p.tables e below (T73.setTop (mkF m 44 #[.val (.int p0), .val (.int p1), .val (.int p2), .val (.int p3), .val (.int (0 : Int32)), .val (.int (own_b (¬ ((p0 &&& (2 : Int32)) = (0 : Int32))))), .val (.int (2 : Int32)), .val (.int mv), .unset, .unset, .unset, .unset] [])) _
        refine XS.iloadN X73.here hx rfl (hb hby at_44) rfl  ?_
        show Steps p.tables e below (T73.setTop (mkF m 45 #[.val (.int p0), .val (.int p1), .val (.int p2), .val (.int p3), .val (.int (0 : Int32)), .val (.int (own_b (¬ ((p0 &&& (2 : Int32)) = (0 : Int32))))), .val (.int (2 : Int32)), .val (.int mv), .unset, .unset, .unset, .unset] [(.int p3)])) _
        refine X73.ldcInt hx hown (mvT hZ (ow hw 0 rfl)) (g := (mkF m 45 #[.val (.int p0), .val (.int p1), .val (.int p2), .val (.int p3), .val (.int (0 : Int32)), .val (.int (own_b (¬ ((p0 &&& (2 : Int32)) = (0 : Int32))))), .val (.int (2 : Int32)), .val (.int mv), .unset, .unset, .unset, .unset] [(.int p3)])) rfl (hb hby at_45) _ ?_
        show Steps p.tables e below (T73.setTop (mkF m 47 #[.val (.int p0), .val (.int p1), .val (.int p2), .val (.int p3), .val (.int (0 : Int32)), .val (.int (own_b (¬ ((p0 &&& (2 : Int32)) = (0 : Int32))))), .val (.int (2 : Int32)), .val (.int mv), .unset, .unset, .unset, .unset] [(.int (2147483647 : Int32)), (.int p3)])) _
        refine XS.iand X73.here hx rfl (hb hby at_47) rfl ?_
        show Steps p.tables e below (T73.setTop (mkF m 48 #[.val (.int p0), .val (.int p1), .val (.int p2), .val (.int p3), .val (.int (0 : Int32)), .val (.int (own_b (¬ ((p0 &&& (2 : Int32)) = (0 : Int32))))), .val (.int (2 : Int32)), .val (.int mv), .unset, .unset, .unset, .unset] [(.int (p3 &&& (2147483647 : Int32)))])) _
        refine XS.iconst X73.here hx rfl (hb hby at_48) ?_
        show Steps p.tables e below (T73.setTop (mkF m 49 #[.val (.int p0), .val (.int p1), .val (.int p2), .val (.int p3), .val (.int (0 : Int32)), .val (.int (own_b (¬ ((p0 &&& (2 : Int32)) = (0 : Int32))))), .val (.int (2 : Int32)), .val (.int mv), .unset, .unset, .unset, .unset] [(.int (3 : Int32)), (.int (p3 &&& (2147483647 : Int32)))])) _
        refine iremM X73 hx rfl (hb hby at_49) rfl (by decide) ?_
        show Steps p.tables e below (T73.setTop (mkF m 50 #[.val (.int p0), .val (.int p1), .val (.int p2), .val (.int p3), .val (.int (0 : Int32)), .val (.int (own_b (¬ ((p0 &&& (2 : Int32)) = (0 : Int32))))), .val (.int (2 : Int32)), .val (.int mv), .unset, .unset, .unset, .unset] [(.int ((p3 &&& (2147483647 : Int32)) % (3 : Int32)))])) _
        refine XS.iload X73.here hx rfl (hb hby at_50) rfl  ?_
        show Steps p.tables e below (T73.setTop (mkF m 52 #[.val (.int p0), .val (.int p1), .val (.int p2), .val (.int p3), .val (.int (0 : Int32)), .val (.int (own_b (¬ ((p0 &&& (2 : Int32)) = (0 : Int32))))), .val (.int (2 : Int32)), .val (.int mv), .unset, .unset, .unset, .unset] [(.int (2 : Int32)), (.int ((p3 &&& (2147483647 : Int32)) % (3 : Int32)))])) _
        refine XS.iload X73.here hx rfl (hb hby at_52) rfl  ?_
        show Steps p.tables e below (T73.setTop (mkF m 54 #[.val (.int p0), .val (.int p1), .val (.int p2), .val (.int p3), .val (.int (0 : Int32)), .val (.int (own_b (¬ ((p0 &&& (2 : Int32)) = (0 : Int32))))), .val (.int (2 : Int32)), .val (.int mv), .unset, .unset, .unset, .unset] [(.int mv), (.int (2 : Int32)), (.int ((p3 &&& (2147483647 : Int32)) % (3 : Int32)))])) _
        refine XS.isub X73.here hx rfl (hb hby at_54) rfl ?_
        show Steps p.tables e below (T73.setTop (mkF m 55 #[.val (.int p0), .val (.int p1), .val (.int p2), .val (.int p3), .val (.int (0 : Int32)), .val (.int (own_b (¬ ((p0 &&& (2 : Int32)) = (0 : Int32))))), .val (.int (2 : Int32)), .val (.int mv), .unset, .unset, .unset, .unset] [(.int ((2 : Int32) - mv)), (.int ((p3 &&& (2147483647 : Int32)) % (3 : Int32)))])) _
        refine st75 _ ?_
        show Steps p.tables e below (T75.setTop (mkF m 58 #[.val (.int p0), .val (.int p1), .val (.int p2), .val (.int p3), .val (.int (0 : Int32)), .val (.int (own_b (¬ ((p0 &&& (2 : Int32)) = (0 : Int32))))), .val (.int (2 : Int32)), .val (.int mv), .unset, .unset, .unset, .unset] [(.int (if ((2 : Int32) - mv) < ((p3 &&& (2147483647 : Int32)) % (3 : Int32)) then ((2 : Int32) - mv) else ((p3 &&& (2147483647 : Int32)) % (3 : Int32))))])) _
        refine XS.istore X75.here hx rfl (hb hby at_58) rfl (l' := #[.val (.int p0), .val (.int p1), .val (.int p2), .val (.int p3), .val (.int (0 : Int32)), .val (.int (own_b (¬ ((p0 &&& (2 : Int32)) = (0 : Int32))))), .val (.int (2 : Int32)), .val (.int mv), .val (.int (if ((2 : Int32) - mv) < ((p3 &&& (2147483647 : Int32)) % (3 : Int32)) then ((2 : Int32) - mv) else ((p3 &&& (2147483647 : Int32)) % (3 : Int32)))), .unset, .unset, .unset]) rfl ?_
        exact kZ)
      obtain ⟨nv, hnv⟩ : ∃ z, z = (if ((2 : Int32) - mv) < ((p3 &&& (2147483647 : Int32)) % (3 : Int32)) then ((2 : Int32) - mv) else ((p3 &&& (2147483647 : Int32)) % (3 : Int32))) := ⟨_, rfl⟩
      rw [← hnv] at pre76
      have hn3 := own_min hnv (own_rem p3) (own_nn hm4 hm3.2.2 (by decide))
      have hn4 := own_c3 hn3.1 hn3.2.1
      obtain ⟨T77, h77, X77, e77, E77, A77, D77, -, st77⟩ := newO X75 hx hZ hown (ow hw 5 rfl) (ow hw 6 rfl) (ow hw 7 rfl) e75 (g := (mkF m 60 #[.val (.int p0), .val (.int p1), .val (.int p2), .val (.int p3), .val (.int (0 : Int32)), .val (.int (own_b (¬ ((p0 &&& (2 : Int32)) = (0 : Int32))))), .val (.int (2 : Int32)), .val (.int mv), .val (.int nv), .unset, .unset, .unset] [])) rfl (hb hby at_60) (by decide) (by decide)
      obtain ⟨b77, g77⟩ : ∃ z, z = h0.size := ⟨_, rfl⟩
      rw [← g77] at A77 D77 st77
      have gn_b77 : n0 ≤ b77 := Nat.le_trans Z0 (Nat.le_of_eq g77.symm)
      have Z78 : n0 ≤ h77.size := Nat.le_trans Z0 E77.1
      have F__tasks_b77 : Fld Z h77 b77 oR "_tasks" "[Lcom/example/portunus/portunus/policy/WaitingTask;" .null := D77 (Or.inl (ow hw 20 rfl)) (ty := (.array (.object oW))) (by decide)
      have F__mayBeLostAfterUs_b77 : Fld Z h77 b77 oR "_mayBeLostAfterUs" "[D" .null := D77 (Or.inl (ow hw 22 rfl)) (ty := (.array .double)) (by decide)
      have F__size_b77 : Fld Z h77 b77 oR "_size" "I" (.int (0 : Int32)) := D77 (Or.inl (ow hw 29 rfl)) (ty := .int) (by decide)
      have F__first_b77 : Fld Z h77 b77 oR "_first" "I" (.int (0 : Int32)) := D77 (Or.inl (ow hw 35 rfl)) (ty := .int) (by decide)
      have F__lostSlots_b77 : Fld Z h77 b77 oR "_lostSlots" "I" (.int (0 : Int32)) := D77 (Or.inl (ow hw 44 rfl)) (ty := .int) (by decide)
      obtain ⟨_, _, ⟨T79, L79, k79, n79⟩, -, X79, ⟨Lc79, hQ79, l79, y79, z79⟩, st79⟩ := X77.specialBack hx (y := (⟨oR, "<init>", "(Z)V"⟩ : MethodName)) rfl hown (mvT hZ (ow hw 8 rfl)) (mvT hZ (ow hw 9 rfl)) (mvT hZ (ow hw 10 rfl)) (by decide) (backOf (W := 1) (rm2n l Z a0 hw [] b77 .null .null h77 n0 Z78 A77 F__tasks_b77 F__mayBeLostAfterUs_b77 F__size_b77 F__lostSlots_b77 F__first_b77 gn_b77) hZ (ow hw 10 rfl) (ow hw 7 rfl) (by decide) (by decide)) (g := (mkF m 66 #[.val (.int p0), .val (.int p1), .val (.int p2), .val (.int p3), .val (.int (0 : Int32)), .val (.int (own_b (¬ ((p0 &&& (2 : Int32)) = (0 : Int32))))), .val (.int (2 : Int32)), .val (.int mv), .val (.int nv), .unset, .unset, .unset] [(.int (0 : Int32)), (.ref b77), (.ref b77)])) rfl (by rw [hml]; rfl) (Steps.refl _) (a := b77) (argsL := [(.int (0 : Int32))]) (rest := [(.ref b77)]) (lenOf pd7 rfl) rfl (by show 2 * 0 + _ ≤ _; exact Nat.le_of_eq rfl) (hb hby at_66) (fun _ _ => ⟨rfl, e77, (by decide : 1 + 1 ≤ _), (by decide : 5 + 8 ≤ _)⟩)
      dsimp only [Pt.U, Pt.locs, Pt.cells, Pt.slots] at X79 l79 y79 z79 st79 hQ79
      subst l79 y79 z79
      obtain ⟨tk_80, kt_81, rfl, N79q, K79, u79_0, u79_1, f79_0, f79_1, f79_2, f79_3, f79_4, f79_5, f79_6⟩ := hQ79
      have N79 := Fr.app N75 N79q
      have Z82 : n0 ≤ T79.heap.size := Nat.le_trans Z78 K79.1
      have ne83 : b77 ≠ tk_80 := Nat.ne_of_lt (Nat.lt_of_lt_of_le A77.lt u79_1)
      obtain ⟨cq84, kq84, q84a, q84b, q84c⟩ := isOf hZ rfl f79_0
      obtain ⟨_, _, ⟨T84, L84, k84, n84⟩, -, X84, ⟨Lc84, hQ84, l84, y84, z84⟩, st84⟩ := X79.virtualBack hx (y := (⟨oR, "addLast", "(Lcom/example/portunus/portunus/policy/WaitingTask;D)V"⟩ : MethodName)) (z := (⟨oR, "addLast", "(Lcom/example/portunus/portunus/policy/WaitingTask;D)V"⟩ : MethodName)) hown (mvT hZ (ow hw 23 rfl)) (mvT hZ (ow hw 24 rfl)) (notFace_of_selects (args := #[]) (mvT hZ (ow hw 26 rfl))) (mvT hZ (ow hw 26 rfl)) (mvT hZ (ow hw 25 rfl)) (by decide) (backOf (W := 0) (rm5n l Z a0 hw [] b77 Jvm.FP.dconst1 tk_80 (0 : Int32) (0 : Int32) (0 : Int32) kt_81 T79.heap n0 Z82 f79_0 f79_1 f79_2 f79_3 f79_4 f79_5 f79_6 gn_b77 u79_0 ne83 (by first | assumption | decide | omega)) hZ (ow hw 27 rfl) (ow hw 7 rfl) (by decide) (by decide)) q84a q84c (g := (mkF m 81 #[.val (.int p0), .val (.int p1), .val (.int p2), .val (.int p3), .val (.int (0 : Int32)), .val (.int (own_b (¬ ((p0 &&& (2 : Int32)) = (0 : Int32))))), .val (.int (2 : Int32)), .val (.int mv), .val (.int nv), .val (.ref b77), .unset, .unset] [(.double Jvm.FP.dconst1), .null, (.ref b77)])) rfl (by rw [hml]; rfl) (Steps.refl _) (argsL := [.null, (.double Jvm.FP.dconst1)]) (rest := []) (lenOf pd10 rfl) rfl (by show 2 * 0 + _ ≤ _; exact Nat.le_of_eq rfl) (hb hby at_81) (fun _ _ => ⟨rfl, rfl, (by decide : 2 + 0 ≤ _), (by decide : 13 + 0 ≤ _)⟩)
      dsimp only [Pt.U, Pt.locs, Pt.cells, Pt.slots] at X84 l84 y84 z84 st84 hQ84
      subst l84 y84 z84
      obtain ⟨rfl, N84q, K84, f84_0, f84_1, f84_2, f84_3, f84_4, f84_5, f84_6⟩ := hQ84
      have N84 := Fr.app N79 N84q
      have Z85 : n0 ≤ T84.heap.size := Nat.le_trans Z82 K84.1
      obtain ⟨cq86, kq86, q86a, q86b, q86c⟩ := isOf hZ rfl f84_0
      obtain ⟨_, _, ⟨T86, L86, k86, n86⟩, -, X86, ⟨Lc86, hQ86, l86, y86, z86⟩, st86⟩ := X84.virtualBack hx (y := (⟨oR, "addLast", "(Lcom/example/portunus/portunus/policy/WaitingTask;D)V"⟩ : MethodName)) (z := (⟨oR, "addLast", "(Lcom/example/portunus/portunus/policy/WaitingTask;D)V"⟩ : MethodName)) hown (mvT hZ (ow hw 23 rfl)) (mvT hZ (ow hw 24 rfl)) (notFace_of_selects (args := #[]) (mvT hZ (ow hw 26 rfl))) (mvT hZ (ow hw 26 rfl)) (mvT hZ (ow hw 25 rfl)) (by decide) (backOf (W := 0) (rm5n l Z a0 hw [] b77 (4611686018427387904 : UInt64) tk_80 ((0 : Int32) + (1 : Int32)) (0 : Int32) (0 : Int32) kt_81 T84.heap n0 Z85 f84_0 f84_1 f84_2 f84_3 f84_4 f84_5 f84_6 gn_b77 u79_0 ne83 (by first | assumption | decide | omega)) hZ (ow hw 27 rfl) (ow hw 7 rfl) (by decide) (by decide)) q86a q86c (g := (mkF m 96 #[.val (.int p0), .val (.int p1), .val (.int p2), .val (.int p3), .val (.int (0 : Int32)), .val (.int (own_b (¬ ((p0 &&& (2 : Int32)) = (0 : Int32))))), .val (.int (2 : Int32)), .val (.int mv), .val (.int nv), .val (.ref b77), .unset, .unset] [(.double (4611686018427387904 : UInt64)), .null, (.ref b77)])) rfl (by rw [hml]; rfl) (Steps.refl _) (argsL := [.null, (.double (4611686018427387904 : UInt64))]) (rest := []) (lenOf pd10 rfl) rfl (by show 2 * 0 + _ ≤ _; exact Nat.le_of_eq rfl) (hb hby at_96) (fun _ _ => ⟨rfl, rfl, (by decide : 2 + 0 ≤ _), (by decide : 13 + 0 ≤ _)⟩)
      dsimp only [Pt.U, Pt.locs, Pt.cells, Pt.slots] at X86 l86 y86 z86 st86 hQ86
      subst l86 y86 z86
      obtain ⟨rfl, N86q, K86, f86_0, f86_1, f86_2, f86_3, f86_4, f86_5, f86_6⟩ := hQ86
      have N86 := Fr.app N84 N86q
      have Z87 : n0 ≤ T86.heap.size := Nat.le_trans Z85 K86.1
      obtain ⟨cq88, kq88, q88a, q88b, q88c⟩ := isOf hZ rfl f86_0
      obtain ⟨_, _, ⟨T88, L88, k88, n88⟩, -, X88, ⟨Lc88, hQ88, l88, y88, z88⟩, st88⟩ := X86.virtualBack hx (y := (⟨oR, "hasOther", "()Z"⟩ : MethodName)) (z := (⟨oR, "hasOther", "()Z"⟩ : MethodName)) hown (mvT hZ (ow hw 38 rfl)) (mvT hZ (ow hw 39 rfl)) (notFace_of_selects (args := #[]) (mvT hZ (ow hw 41 rfl))) (mvT hZ (ow hw 41 rfl)) (mvT hZ (ow hw 40 rfl)) (by decide) (backOf (W := 0) (rm7 l Z a0 hw [] b77 (((0 : Int32) + (1 : Int32)) + (1 : Int32)) (0 : Int32) T86.heap n0 Z87 f86_3 f86_4) hZ (ow hw 42 rfl) (ow hw 7 rfl) (by decide) (by decide)) q88a q88c (g := (mkF m 116 #[.val (.int p0), .val (.int p1), .val (.int p2), .val (.int p3), .val (.int (0 : Int32)), .val (.int (own_b (¬ ((p0 &&& (2 : Int32)) = (0 : Int32))))), .val (.int (2 : Int32)), .val (.int mv), .val (.int nv), .val (.ref b77), .unset, .unset] [(.ref b77)])) rfl (by rw [hml]; rfl) (Steps.refl _) (argsL := []) (rest := []) (lenOf pd8 rfl) rfl (by show 2 * 0 + _ ≤ _; exact Nat.le_of_eq rfl) (hb hby at_116) (fun _ _ => ⟨rfl, rfl, (by decide : 2 + 0 ≤ _), (by decide : 13 + 0 ≤ _)⟩)
      dsimp only [Pt.U, Pt.locs, Pt.cells, Pt.slots] at X88 l88 y88 z88 st88 hQ88
      subst l88 y88 z88
      obtain ⟨rfl, N88q, e88⟩ := hQ88
      have N88 := Fr.app N86 N88q
      have pre89 : ∀ tZ, Steps p.tables e below (T88.setTop (mkF m 123 #[.val (.int p0), .val (.int p1), .val (.int p2), .val (.int p3), .val (.int (0 : Int32)), .val (.int (own_b (¬ ((p0 &&& (2 : Int32)) = (0 : Int32))))), .val (.int (2 : Int32)), .val (.int mv), .val (.int nv), .val (.ref b77), .val (.int (own_b ((0 : Int32) < (((0 : Int32) + (1 : Int32)) + (1 : Int32))))), .unset] [(.int (own_b (¬ ((p0 &&& (2 : Int32)) = (0 : Int32)))))])) tZ → Steps p.tables e below (s₁.setTop (entryFrame m #[(.int p0), (.int p1), (.int p2), (.int p3)] maxLocals)) tZ := fun tZ kZ => pre76 tZ (by
        show Steps p.tables e below (T75.setTop (mkF m 60 #[.val (.int p0), .val (.int p1), .val (.int p2), .val (.int p3), .val (.int (0 : Int32)), .val (.int (own_b (¬ ((p0 &&& (2 : Int32)) = (0 : Int32))))), .val (.int (2 : Int32)), .val (.int mv), .val (.int nv), .unset, .unset, .unset] [])) _
        refine st77 _ ?_
        show Steps p.tables e below (T77.setTop (mkF m 63 #[.val (.int p0), .val (.int p1), .val (.int p2), .val (.int p3), .val (.int (0 : Int32)), .val (.int (own_b (¬ ((p0 &&& (2 : Int32)) = (0 : Int32))))), .val (.int (2 : Int32)), .val (.int mv), .val (.int nv), .unset, .unset, .unset] [(.ref b77)])) _
        refine XS.dup X77.here hx rfl (hb hby at_63) rfl rfl ?_
        show Steps p.tables e below (T77.setTop (mkF m 64 #[.val (.int p0), .val (.int p1), .val (.int p2), .val (.int p3), .val (.int (0 : Int32)), .val (.int (own_b (¬ ((p0 &&& (2 : Int32)) = (0 : Int32))))), .val (.int (2 : Int32)), .val (.int mv), .val (.int nv), .unset, .unset, .unset] [(.ref b77), (.ref b77)])) _
        refine XS.iload X77.here hx rfl (hb hby at_64) rfl  ?_
        show Steps p.tables e below (T77.setTop (mkF m 66 #[.val (.int p0), .val (.int p1), .val (.int p2), .val (.int p3), .val (.int (0 : Int32)), .val (.int (own_b (¬ ((p0 &&& (2 : Int32)) = (0 : Int32))))), .val (.int (2 : Int32)), .val (.int mv), .val (.int nv), .unset, .unset, .unset] [(.int (0 : Int32)), (.ref b77), (.ref b77)])) _
        refine st79.trans ?_
        show Steps p.tables e below (T79.setTop (mkF m 69 #[.val (.int p0), .val (.int p1), .val (.int p2), .val (.int p3), .val (.int (0 : Int32)), .val (.int (own_b (¬ ((p0 &&& (2 : Int32)) = (0 : Int32))))), .val (.int (2 : Int32)), .val (.int mv), .val (.int nv), .unset, .unset, .unset] [(.ref b77)])) _
        refine XS.astore X79.here hx rfl (hb hby at_69) rfl rfl (l' := #[.val (.int p0), .val (.int p1), .val (.int p2), .val (.int p3), .val (.int (0 : Int32)), .val (.int (own_b (¬ ((p0 &&& (2 : Int32)) = (0 : Int32))))), .val (.int (2 : Int32)), .val (.int mv), .val (.int nv), .val (.ref b77), .unset, .unset]) rfl ?_
        show Steps p.tables e below (T79.setTop (mkF m 71 #[.val (.int p0), .val (.int p1), .val (.int p2), .val (.int p3), .val (.int (0 : Int32)), .val (.int (own_b (¬ ((p0 &&& (2 : Int32)) = (0 : Int32))))), .val (.int (2 : Int32)), .val (.int mv), .val (.int nv), .val (.ref b77), .unset, .unset] [])) _
        refine XS.iload X79.here hx rfl (hb hby at_71) rfl  ?_
        show Steps p.tables e below (T79.setTop (mkF m 73 #[.val (.int p0), .val (.int p1), .val (.int p2), .val (.int p3), .val (.int (0 : Int32)), .val (.int (own_b (¬ ((p0 &&& (2 : Int32)) = (0 : Int32))))), .val (.int (2 : Int32)), .val (.int mv), .val (.int nv), .val (.ref b77), .unset, .unset] [(.int (2 : Int32))])) _
        refine XS.iconst X79.here hx rfl (hb hby at_73) ?_
        show Steps p.tables e below (T79.setTop (mkF m 74 #[.val (.int p0), .val (.int p1), .val (.int p2), .val (.int p3), .val (.int (0 : Int32)), .val (.int (own_b (¬ ((p0 &&& (2 : Int32)) = (0 : Int32))))), .val (.int (2 : Int32)), .val (.int mv), .val (.int nv), .val (.ref b77), .unset, .unset] [(.int (1 : Int32)), (.int (2 : Int32))])) _
        refine XS.icmpNo X79.here hx rfl (hb hby at_74) rfl (flt (by decide)).1 ?_
        show Steps p.tables e below (T79.setTop (mkF m 77 #[.val (.int p0), .val (.int p1), .val (.int p2), .val (.int p3), .val (.int (0 : Int32)), .val (.int (own_b (¬ ((p0 &&& (2 : Int32)) = (0 : Int32))))), .val (.int (2 : Int32)), .val (.int mv), .val (.int nv), .val (.ref b77), .unset, .unset] [])) _
        refine XS.aload X79.here hx rfl (hb hby at_77) rfl rfl ?_
        show Steps p.tables e below (T79.setTop (mkF m 79 #[.val (.int p0), .val (.int p1), .val (.int p2), .val (.int p3), .val (.int (0 : Int32)), .val (.int (own_b (¬ ((p0 &&& (2 : Int32)) = (0 : Int32))))), .val (.int (2 : Int32)), .val (.int mv), .val (.int nv), .val (.ref b77), .unset, .unset] [(.ref b77)])) _
        refine XS.aconstNull X79.here hx rfl (hb hby at_79) ?_
        show Steps p.tables e below (T79.setTop (mkF m 80 #[.val (.int p0), .val (.int p1), .val (.int p2), .val (.int p3), .val (.int (0 : Int32)), .val (.int (own_b (¬ ((p0 &&& (2 : Int32)) = (0 : Int32))))), .val (.int (2 : Int32)), .val (.int mv), .val (.int nv), .val (.ref b77), .unset, .unset] [.null, (.ref b77)])) _
        refine XS.dconst1 X79.here hx rfl (v := Jvm.FP.dconst1) (hb hby at_80) rfl ?_
        show Steps p.tables e below (T79.setTop (mkF m 81 #[.val (.int p0), .val (.int p1), .val (.int p2), .val (.int p3), .val (.int (0 : Int32)), .val (.int (own_b (¬ ((p0 &&& (2 : Int32)) = (0 : Int32))))), .val (.int (2 : Int32)), .val (.int mv), .val (.int nv), .val (.ref b77), .unset, .unset] [(.double Jvm.FP.dconst1), .null, (.ref b77)])) _
        refine st84.trans ?_
        show Steps p.tables e below (T84.setTop (mkF m 84 #[.val (.int p0), .val (.int p1), .val (.int p2), .val (.int p3), .val (.int (0 : Int32)), .val (.int (own_b (¬ ((p0 &&& (2 : Int32)) = (0 : Int32))))), .val (.int (2 : Int32)), .val (.int mv), .val (.int nv), .val (.ref b77), .unset, .unset] [])) _
        refine XS.iload X84.here hx rfl (hb hby at_84) rfl  ?_
        show Steps p.tables e below (T84.setTop (mkF m 86 #[.val (.int p0), .val (.int p1), .val (.int p2), .val (.int p3), .val (.int (0 : Int32)), .val (.int (own_b (¬ ((p0 &&& (2 : Int32)) = (0 : Int32))))), .val (.int (2 : Int32)), .val (.int mv), .val (.int nv), .val (.ref b77), .unset, .unset] [(.int (2 : Int32))])) _
        refine XS.iconst X84.here hx rfl (hb hby at_86) ?_
        show Steps p.tables e below (T84.setTop (mkF m 87 #[.val (.int p0), .val (.int p1), .val (.int p2), .val (.int p3), .val (.int (0 : Int32)), .val (.int (own_b (¬ ((p0 &&& (2 : Int32)) = (0 : Int32))))), .val (.int (2 : Int32)), .val (.int mv), .val (.int nv), .val (.ref b77), .unset, .unset] [(.int (2 : Int32)), (.int (2 : Int32))])) _
        refine XS.icmpNo X84.here hx rfl (hb hby at_87) rfl (flt (by decide)).1 ?_
        show Steps p.tables e below (T84.setTop (mkF m 90 #[.val (.int p0), .val (.int p1), .val (.int p2), .val (.int p3), .val (.int (0 : Int32)), .val (.int (own_b (¬ ((p0 &&& (2 : Int32)) = (0 : Int32))))), .val (.int (2 : Int32)), .val (.int mv), .val (.int nv), .val (.ref b77), .unset, .unset] [])) _
        refine XS.aload X84.here hx rfl (hb hby at_90) rfl rfl ?_
        show Steps p.tables e below (T84.setTop (mkF m 92 #[.val (.int p0), .val (.int p1), .val (.int p2), .val (.int p3), .val (.int (0 : Int32)), .val (.int (own_b (¬ ((p0 &&& (2 : Int32)) = (0 : Int32))))), .val (.int (2 : Int32)), .val (.int mv), .val (.int nv), .val (.ref b77), .unset, .unset] [(.ref b77)])) _
        refine XS.aconstNull X84.here hx rfl (hb hby at_92) ?_
        show Steps p.tables e below (T84.setTop (mkF m 93 #[.val (.int p0), .val (.int p1), .val (.int p2), .val (.int p3), .val (.int (0 : Int32)), .val (.int (own_b (¬ ((p0 &&& (2 : Int32)) = (0 : Int32))))), .val (.int (2 : Int32)), .val (.int mv), .val (.int nv), .val (.ref b77), .unset, .unset] [.null, (.ref b77)])) _
        refine X84.ldc2DoubleC hx hown (mvT hZ (ow hw 36 rfl)) (g := (mkF m 93 #[.val (.int p0), .val (.int p1), .val (.int p2), .val (.int p3), .val (.int (0 : Int32)), .val (.int (own_b (¬ ((p0 &&& (2 : Int32)) = (0 : Int32))))), .val (.int (2 : Int32)), .val (.int mv), .val (.int nv), .val (.ref b77), .unset, .unset] [.null, (.ref b77)])) rfl (hb hby at_93) _ ?_
        show Steps p.tables e below (T84.setTop (mkF m 96 #[.val (.int p0), .val (.int p1), .val (.int p2), .val (.int p3), .val (.int (0 : Int32)), .val (.int (own_b (¬ ((p0 &&& (2 : Int32)) = (0 : Int32))))), .val (.int (2 : Int32)), .val (.int mv), .val (.int nv), .val (.ref b77), .unset, .unset] [(.double (4611686018427387904 : UInt64)), .null, (.ref b77)])) _
        refine st86.trans ?_
        show Steps p.tables e below (T86.setTop (mkF m 99 #[.val (.int p0), .val (.int p1), .val (.int p2), .val (.int p3), .val (.int (0 : Int32)), .val (.int (own_b (¬ ((p0 &&& (2 : Int32)) = (0 : Int32))))), .val (.int (2 : Int32)), .val (.int mv), .val (.int nv), .val (.ref b77), .unset, .unset] [])) _
        refine XS.iload X86.here hx rfl (hb hby at_99) rfl  ?_
        show Steps p.tables e below (T86.setTop (mkF m 101 #[.val (.int p0), .val (.int p1), .val (.int p2), .val (.int p3), .val (.int (0 : Int32)), .val (.int (own_b (¬ ((p0 &&& (2 : Int32)) = (0 : Int32))))), .val (.int (2 : Int32)), .val (.int mv), .val (.int nv), .val (.ref b77), .unset, .unset] [(.int (2 : Int32))])) _
        refine XS.iconst X86.here hx rfl (hb hby at_101) ?_
        show Steps p.tables e below (T86.setTop (mkF m 102 #[.val (.int p0), .val (.int p1), .val (.int p2), .val (.int p3), .val (.int (0 : Int32)), .val (.int (own_b (¬ ((p0 &&& (2 : Int32)) = (0 : Int32))))), .val (.int (2 : Int32)), .val (.int mv), .val (.int nv), .val (.ref b77), .unset, .unset] [(.int (3 : Int32)), (.int (2 : Int32))])) _
        refine XS.icmpYes X86.here hx rfl (pc0 := 102) (pc' := 114) rfl (hb hby at_102) rfl (tlt (by decide)).1 (by decide) (by decide) ?_
        show Steps p.tables e below (T86.setTop (mkF m 114 #[.val (.int p0), .val (.int p1), .val (.int p2), .val (.int p3), .val (.int (0 : Int32)), .val (.int (own_b (¬ ((p0 &&& (2 : Int32)) = (0 : Int32))))), .val (.int (2 : Int32)), .val (.int mv), .val (.int nv), .val (.ref b77), .unset, .unset] [])) _
        refine XS.aload X86.here hx rfl (hb hby at_114) rfl rfl ?_
        show Steps p.tables e below (T86.setTop (mkF m 116 #[.val (.int p0), .val (.int p1), .val (.int p2), .val (.int p3), .val (.int (0 : Int32)), .val (.int (own_b (¬ ((p0 &&& (2 : Int32)) = (0 : Int32))))), .val (.int (2 : Int32)), .val (.int mv), .val (.int nv), .val (.ref b77), .unset, .unset] [(.ref b77)])) _
        refine st88.trans ?_
        show Steps p.tables e below (T88.setTop (mkF m 119 #[.val (.int p0), .val (.int p1), .val (.int p2), .val (.int p3), .val (.int (0 : Int32)), .val (.int (own_b (¬ ((p0 &&& (2 : Int32)) = (0 : Int32))))), .val (.int (2 : Int32)), .val (.int mv), .val (.int nv), .val (.ref b77), .unset, .unset] [(.int (own_b ((0 : Int32) < (((0 : Int32) + (1 : Int32)) + (1 : Int32)))))])) _
        refine XS.istore X88.here hx rfl (hb hby at_119) rfl (l' := #[.val (.int p0), .val (.int p1), .val (.int p2), .val (.int p3), .val (.int (0 : Int32)), .val (.int (own_b (¬ ((p0 &&& (2 : Int32)) = (0 : Int32))))), .val (.int (2 : Int32)), .val (.int mv), .val (.int nv), .val (.ref b77), .val (.int (own_b ((0 : Int32) < (((0 : Int32) + (1 : Int32)) + (1 : Int32))))), .unset]) rfl ?_
        show Steps p.tables e below (T88.setTop (mkF m 121 #[.val (.int p0), .val (.int p1), .val (.int p2), .val (.int p3), .val (.int (0 : Int32)), .val (.int (own_b (¬ ((p0 &&& (2 : Int32)) = (0 : Int32))))), .val (.int (2 : Int32)), .val (.int mv), .val (.int nv), .val (.ref b77), .val (.int (own_b ((0 : Int32) < (((0 : Int32) + (1 : Int32)) + (1 : Int32))))), .unset] [])) _
        refine XS.iload X88.here hx rfl (hb hby at_121) rfl  ?_
        exact kZ)
      by_cases hc90 : (¬ ((p0 &&& (2 : Int32)) = (0 : Int32)))
      ·  -- yes
        obtain ⟨_, _, ⟨T91, L91, k91, n91⟩, -, X91, ⟨Lc91, hQ91, l91, y91, z91⟩, st91⟩ := Jvm.LawKit.callS X88 hx (y := (⟨oL, "doPolls", "(Lcom/example/portunus/portunus/policy/Run;I)V"⟩ : MethodName)) hown (mvT hZ (ow hw 54 rfl)) (mvT hZ (ow hw 55 rfl)) (mvT hZ (ow hw 47 rfl)) (mvT hZ (ow hw 56 rfl)) (by decide) (backOf (W := 0) (rm10n l Z a0 hw [] b77 nv tk_80 (((0 : Int32) + (1 : Int32)) + (1 : Int32)) (0 : Int32) (0 : Int32) kt_81 T86.heap n0 Z87 f86_0 f86_1 f86_2 f86_3 f86_4 f86_5 f86_6 gn_b77 u79_0 ne83 hn4 (by decide)) hZ (ow hw 56 rfl) (ow hw 47 rfl) (by decide) (by decide)) (g := (mkF m 130 #[.val (.int p0), .val (.int p1), .val (.int p2), .val (.int p3), .val (.int (0 : Int32)), .val (.int (own_b (¬ ((p0 &&& (2 : Int32)) = (0 : Int32))))), .val (.int (2 : Int32)), .val (.int mv), .val (.int nv), .val (.ref b77), .val (.int (own_b ((0 : Int32) < (((0 : Int32) + (1 : Int32)) + (1 : Int32))))), .unset] [(.int nv), (.ref b77)])) rfl (by rw [hml]; rfl) (argsL := [(.ref b77), (.int nv)]) (rest := []) (lenOf pd9 rfl) rfl (by show 2 * 0 + _ ≤ _; exact Nat.le_of_eq rfl) (hb hby at_130) (fun _ _ => ⟨rfl, e88, (by decide : 2 + 0 ≤ _), (by decide : 13 + 0 ≤ _)⟩)
        dsimp only [Pt.U, Pt.locs, Pt.cells, Pt.slots] at X91 l91 y91 z91 st91 hQ91
        subst l91 y91 z91
        obtain ⟨fn_92, rfl, N91q, K91, f91_0, f91_1, f91_2, f91_3, f91_4, f91_5, f91_6⟩ := hQ91
        have N91 := Fr.app N88 N91q
        have Z93 : n0 ≤ T91.heap.size := Nat.le_trans Z87 K91.1
        obtain ⟨_, _, ⟨T94, L94, k94, n94⟩, -, X94, ⟨Lc94, hQ94, l94, y94, z94⟩, st94⟩ := Jvm.LawKit.callS X91 hx (y := (⟨oL, "doMarks", "(Lcom/example/portunus/portunus/policy/Run;I)V"⟩ : MethodName)) hown (mvT hZ (ow hw 45 rfl)) (mvT hZ (ow hw 46 rfl)) (mvT hZ (ow hw 47 rfl)) (mvT hZ (ow hw 48 rfl)) (by decide) (backOf (W := 0) (rm8n l Z a0 hw [] b77 mv tk_80 (own_ps (0 : Int32) (((0 : Int32) + (1 : Int32)) + (1 : Int32)) nv) (own_pl (0 : Int32) nv) fn_92 kt_81 T91.heap n0 Z93 f91_0 f91_1 f91_2 f91_3 f91_4 f91_5 f91_6 gn_b77 u79_0 ne83 hm4) hZ (ow hw 48 rfl) (ow hw 47 rfl) (by decide) (by decide)) (g := (mkF m 137 #[.val (.int p0), .val (.int p1), .val (.int p2), .val (.int p3), .val (.int (0 : Int32)), .val (.int (own_b (¬ ((p0 &&& (2 : Int32)) = (0 : Int32))))), .val (.int (2 : Int32)), .val (.int mv), .val (.int nv), .val (.ref b77), .val (.int (own_b ((0 : Int32) < (((0 : Int32) + (1 : Int32)) + (1 : Int32))))), .unset] [(.int mv), (.ref b77)])) rfl (by rw [hml]; rfl) (argsL := [(.ref b77), (.int mv)]) (rest := []) (lenOf pd9 rfl) rfl (by show 2 * 0 + _ ≤ _; exact Nat.le_of_eq rfl) (hb hby at_137) (fun _ _ => ⟨rfl, rfl, (by decide : 2 + 0 ≤ _), (by decide : 13 + 0 ≤ _)⟩)
        dsimp only [Pt.U, Pt.locs, Pt.cells, Pt.slots] at X94 l94 y94 z94 st94 hQ94
        subst l94 y94 z94
        obtain ⟨rfl, N94q, K94, f94_0, f94_1, f94_2, f94_3, f94_4, f94_5, f94_6⟩ := hQ94
        have N94 := Fr.app N91 N94q
        have Z95 : n0 ≤ T94.heap.size := Nat.le_trans Z93 K94.1
        obtain ⟨cq96, kq96, q96a, q96b, q96c⟩ := isOf hZ rfl f94_0
        obtain ⟨_, _, ⟨T96, L96, k96, n96⟩, -, X96, ⟨Lc96, hQ96, l96, y96, z96⟩, st96⟩ := X94.virtualBack hx (y := (⟨oR, "hasOther", "()Z"⟩ : MethodName)) (z := (⟨oR, "hasOther", "()Z"⟩ : MethodName)) hown (mvT hZ (ow hw 38 rfl)) (mvT hZ (ow hw 39 rfl)) (notFace_of_selects (args := #[]) (mvT hZ (ow hw 41 rfl))) (mvT hZ (ow hw 41 rfl)) (mvT hZ (ow hw 40 rfl)) (by decide) (backOf (W := 0) (rm7 l Z a0 hw [] b77 (own_ps (0 : Int32) (((0 : Int32) + (1 : Int32)) + (1 : Int32)) nv) ((own_pl (0 : Int32) nv) + mv) T94.heap n0 Z95 f94_3 f94_4) hZ (ow hw 42 rfl) (ow hw 7 rfl) (by decide) (by decide)) q96a q96c (g := (mkF m 159 #[.val (.int p0), .val (.int p1), .val (.int p2), .val (.int p3), .val (.int (0 : Int32)), .val (.int (own_b (¬ ((p0 &&& (2 : Int32)) = (0 : Int32))))), .val (.int (2 : Int32)), .val (.int mv), .val (.int nv), .val (.ref b77), .val (.int (own_b ((0 : Int32) < (((0 : Int32) + (1 : Int32)) + (1 : Int32))))), .unset] [(.ref b77)])) rfl (by rw [hml]; rfl) (Steps.refl _) (argsL := []) (rest := []) (lenOf pd8 rfl) rfl (by show 2 * 0 + _ ≤ _; exact Nat.le_of_eq rfl) (hb hby at_159) (fun _ _ => ⟨rfl, rfl, (by decide : 2 + 0 ≤ _), (by decide : 13 + 0 ≤ _)⟩)
        dsimp only [Pt.U, Pt.locs, Pt.cells, Pt.slots] at X96 l96 y96 z96 st96 hQ96
        subst l96 y96 z96
        obtain ⟨rfl, N96q, e96⟩ := hQ96
        have N96 := Fr.app N94 N96q
        have pre97 : ∀ tZ, Steps p.tables e below (T96.setTop (mkF m 189 #[.val (.int p0), .val (.int p1), .val (.int p2), .val (.int p3), .val (.int (0 : Int32)), .val (.int (own_b (¬ ((p0 &&& (2 : Int32)) = (0 : Int32))))), .val (.int (2 : Int32)), .val (.int mv), .val (.int nv), .val (.ref b77), .val (.int (own_b ((0 : Int32) < (((0 : Int32) + (1 : Int32)) + (1 : Int32))))), .val (.int (own_b (((own_pl (0 : Int32) nv) + mv) < (own_ps (0 : Int32) (((0 : Int32) + (1 : Int32)) + (1 : Int32)) nv))))] [(.int (((2 : Int32) - mv) - nv)), (.int (own_b (((own_pl (0 : Int32) nv) + mv) < (own_ps (0 : Int32) (((0 : Int32) + (1 : Int32)) + (1 : Int32)) nv))))])) tZ → Steps p.tables e below (s₁.setTop (entryFrame m #[(.int p0), (.int p1), (.int p2), (.int p3)] maxLocals)) tZ := fun tZ kZ => pre89 tZ (by
          show Steps p.tables e below (T88.setTop (mkF m 123 #[.val (.int p0), .val (.int p1), .val (.int p2), .val (.int p3), .val (.int (0 : Int32)), .val (.int (own_b (¬ ((p0 &&& (2 : Int32)) = (0 : Int32))))), .val (.int (2 : Int32)), .val (.int mv), .val (.int nv), .val (.ref b77), .val (.int (own_b ((0 : Int32) < (((0 : Int32) + (1 : Int32)) + (1 : Int32))))), .unset] [(.int (own_b (¬ ((p0 &&& (2 : Int32)) = (0 : Int32)))))])) _
          refine XS.ifNo X88.here hx rfl (hb hby at_123) rfl ((if0 _ _).trans (feq (own_b_nz hc90)).1) ?_
          show Steps p.tables e below (T88.setTop (mkF m 126 #[.val (.int p0), .val (.int p1), .val (.int p2), .val (.int p3), .val (.int (0 : Int32)), .val (.int (own_b (¬ ((p0 &&& (2 : Int32)) = (0 : Int32))))), .val (.int (2 : Int32)), .val (.int mv), .val (.int nv), .val (.ref b77), .val (.int (own_b ((0 : Int32) < (((0 : Int32) + (1 : Int32)) + (1 : Int32))))), .unset] [])) _
          refine XS.aload X88.here hx rfl (hb hby at_126) rfl rfl ?_
          show Steps p.tables e below (T88.setTop (mkF m 128 #[.val (.int p0), .val (.int p1), .val (.int p2), .val (.int p3), .val (.int (0 : Int32)), .val (.int (own_b (¬ ((p0 &&& (2 : Int32)) = (0 : Int32))))), .val (.int (2 : Int32)), .val (.int mv), .val (.int nv), .val (.ref b77), .val (.int (own_b ((0 : Int32) < (((0 : Int32) + (1 : Int32)) + (1 : Int32))))), .unset] [(.ref b77)])) _
          refine XS.iload X88.here hx rfl (hb hby at_128) rfl  ?_
          show Steps p.tables e below (T88.setTop (mkF m 130 #[.val (.int p0), .val (.int p1), .val (.int p2), .val (.int p3), .val (.int (0 : Int32)), .val (.int (own_b (¬ ((p0 &&& (2 : Int32)) = (0 : Int32))))), .val (.int (2 : Int32)), .val (.int mv), .val (.int nv), .val (.ref b77), .val (.int (own_b ((0 : Int32) < (((0 : Int32) + (1 : Int32)) + (1 : Int32))))), .unset] [(.int nv), (.ref b77)])) _
          refine st91 _ ?_
          show Steps p.tables e below (T91.setTop (mkF m 133 #[.val (.int p0), .val (.int p1), .val (.int p2), .val (.int p3), .val (.int (0 : Int32)), .val (.int (own_b (¬ ((p0 &&& (2 : Int32)) = (0 : Int32))))), .val (.int (2 : Int32)), .val (.int mv), .val (.int nv), .val (.ref b77), .val (.int (own_b ((0 : Int32) < (((0 : Int32) + (1 : Int32)) + (1 : Int32))))), .unset] [])) _
          refine XS.aload X91.here hx rfl (hb hby at_133) rfl rfl ?_
          show Steps p.tables e below (T91.setTop (mkF m 135 #[.val (.int p0), .val (.int p1), .val (.int p2), .val (.int p3), .val (.int (0 : Int32)), .val (.int (own_b (¬ ((p0 &&& (2 : Int32)) = (0 : Int32))))), .val (.int (2 : Int32)), .val (.int mv), .val (.int nv), .val (.ref b77), .val (.int (own_b ((0 : Int32) < (((0 : Int32) + (1 : Int32)) + (1 : Int32))))), .unset] [(.ref b77)])) _
          refine XS.iload X91.here hx rfl (hb hby at_135) rfl  ?_
          show Steps p.tables e below (T91.setTop (mkF m 137 #[.val (.int p0), .val (.int p1), .val (.int p2), .val (.int p3), .val (.int (0 : Int32)), .val (.int (own_b (¬ ((p0 &&& (2 : Int32)) = (0 : Int32))))), .val (.int (2 : Int32)), .val (.int mv), .val (.int nv), .val (.ref b77), .val (.int (own_b ((0 : Int32) < (((0 : Int32) + (1 : Int32)) + (1 : Int32))))), .unset] [(.int mv), (.ref b77)])) _
          refine st94 _ ?_
          show Steps p.tables e below (T94.setTop (mkF m 140 #[.val (.int p0), .val (.int p1), .val (.int p2), .val (.int p3), .val (.int (0 : Int32)), .val (.int (own_b (¬ ((p0 &&& (2 : Int32)) = (0 : Int32))))), .val (.int (2 : Int32)), .val (.int mv), .val (.int nv), .val (.ref b77), .val (.int (own_b ((0 : Int32) < (((0 : Int32) + (1 : Int32)) + (1 : Int32))))), .unset] [])) _
          refine XS.goto X94.here hx rfl (pc0 := 140) (pc' := 157) rfl (hb hby at_140) (by decide) (by decide) ?_
          show Steps p.tables e below (T94.setTop (mkF m 157 #[.val (.int p0), .val (.int p1), .val (.int p2), .val (.int p3), .val (.int (0 : Int32)), .val (.int (own_b (¬ ((p0 &&& (2 : Int32)) = (0 : Int32))))), .val (.int (2 : Int32)), .val (.int mv), .val (.int nv), .val (.ref b77), .val (.int (own_b ((0 : Int32) < (((0 : Int32) + (1 : Int32)) + (1 : Int32))))), .unset] [])) _
          refine XS.aload X94.here hx rfl (hb hby at_157) rfl rfl ?_
          show Steps p.tables e below (T94.setTop (mkF m 159 #[.val (.int p0), .val (.int p1), .val (.int p2), .val (.int p3), .val (.int (0 : Int32)), .val (.int (own_b (¬ ((p0 &&& (2 : Int32)) = (0 : Int32))))), .val (.int (2 : Int32)), .val (.int mv), .val (.int nv), .val (.ref b77), .val (.int (own_b ((0 : Int32) < (((0 : Int32) + (1 : Int32)) + (1 : Int32))))), .unset] [(.ref b77)])) _
          refine st96.trans ?_
          show Steps p.tables e below (T96.setTop (mkF m 162 #[.val (.int p0), .val (.int p1), .val (.int p2), .val (.int p3), .val (.int (0 : Int32)), .val (.int (own_b (¬ ((p0 &&& (2 : Int32)) = (0 : Int32))))), .val (.int (2 : Int32)), .val (.int mv), .val (.int nv), .val (.ref b77), .val (.int (own_b ((0 : Int32) < (((0 : Int32) + (1 : Int32)) + (1 : Int32))))), .unset] [(.int (own_b (((own_pl (0 : Int32) nv) + mv) < (own_ps (0 : Int32) (((0 : Int32) + (1 : Int32)) + (1 : Int32)) nv))))])) _
          refine XS.istore X96.here hx rfl (hb hby at_162) rfl (l' := #[.val (.int p0), .val (.int p1), .val (.int p2), .val (.int p3), .val (.int (0 : Int32)), .val (.int (own_b (¬ ((p0 &&& (2 : Int32)) = (0 : Int32))))), .val (.int (2 : Int32)), .val (.int mv), .val (.int nv), .val (.ref b77), .val (.int (own_b ((0 : Int32) < (((0 : Int32) + (1 : Int32)) + (1 : Int32))))), .val (.int (own_b (((own_pl (0 : Int32) nv) + mv) < (own_ps (0 : Int32) (((0 : Int32) + (1 : Int32)) + (1 : Int32)) nv))))]) rfl ?_
          show Steps p.tables e below (T96.setTop (mkF m 164 #[.val (.int p0), .val (.int p1), .val (.int p2), .val (.int p3), .val (.int (0 : Int32)), .val (.int (own_b (¬ ((p0 &&& (2 : Int32)) = (0 : Int32))))), .val (.int (2 : Int32)), .val (.int mv), .val (.int nv), .val (.ref b77), .val (.int (own_b ((0 : Int32) < (((0 : Int32) + (1 : Int32)) + (1 : Int32))))), .val (.int (own_b (((own_pl (0 : Int32) nv) + mv) < (own_ps (0 : Int32) (((0 : Int32) + (1 : Int32)) + (1 : Int32)) nv))))] [])) _
          refine XS.iload X96.here hx rfl (hb hby at_164) rfl  ?_
          show Steps p.tables e below (T96.setTop (mkF m 166 #[.val (.int p0), .val (.int p1), .val (.int p2), .val (.int p3), .val (.int (0 : Int32)), .val (.int (own_b (¬ ((p0 &&& (2 : Int32)) = (0 : Int32))))), .val (.int (2 : Int32)), .val (.int mv), .val (.int nv), .val (.ref b77), .val (.int (own_b ((0 : Int32) < (((0 : Int32) + (1 : Int32)) + (1 : Int32))))), .val (.int (own_b (((own_pl (0 : Int32) nv) + mv) < (own_ps (0 : Int32) (((0 : Int32) + (1 : Int32)) + (1 : Int32)) nv))))] [(.int (own_b ((0 : Int32) < (((0 : Int32) + (1 : Int32)) + (1 : Int32)))))])) _
          refine XS.iload X96.here hx rfl (hb hby at_166) rfl  ?_
          show Steps p.tables e below (T96.setTop (mkF m 168 #[.val (.int p0), .val (.int p1), .val (.int p2), .val (.int p3), .val (.int (0 : Int32)), .val (.int (own_b (¬ ((p0 &&& (2 : Int32)) = (0 : Int32))))), .val (.int (2 : Int32)), .val (.int mv), .val (.int nv), .val (.ref b77), .val (.int (own_b ((0 : Int32) < (((0 : Int32) + (1 : Int32)) + (1 : Int32))))), .val (.int (own_b (((own_pl (0 : Int32) nv) + mv) < (own_ps (0 : Int32) (((0 : Int32) + (1 : Int32)) + (1 : Int32)) nv))))] [(.int (2 : Int32)), (.int (own_b ((0 : Int32) < (((0 : Int32) + (1 : Int32)) + (1 : Int32)))))])) _
          refine XS.ifNo X96.here hx rfl (hb hby at_168) rfl ((if0 _ _).trans (tlt (by decide)).2.2.2) ?_
          show Steps p.tables e below (T96.setTop (mkF m 171 #[.val (.int p0), .val (.int p1), .val (.int p2), .val (.int p3), .val (.int (0 : Int32)), .val (.int (own_b (¬ ((p0 &&& (2 : Int32)) = (0 : Int32))))), .val (.int (2 : Int32)), .val (.int mv), .val (.int nv), .val (.ref b77), .val (.int (own_b ((0 : Int32) < (((0 : Int32) + (1 : Int32)) + (1 : Int32))))), .val (.int (own_b (((own_pl (0 : Int32) nv) + mv) < (own_ps (0 : Int32) (((0 : Int32) + (1 : Int32)) + (1 : Int32)) nv))))] [(.int (own_b ((0 : Int32) < (((0 : Int32) + (1 : Int32)) + (1 : Int32)))))])) _
          refine XS.iconst X96.here hx rfl (hb hby at_171) ?_
          show Steps p.tables e below (T96.setTop (mkF m 172 #[.val (.int p0), .val (.int p1), .val (.int p2), .val (.int p3), .val (.int (0 : Int32)), .val (.int (own_b (¬ ((p0 &&& (2 : Int32)) = (0 : Int32))))), .val (.int (2 : Int32)), .val (.int mv), .val (.int nv), .val (.ref b77), .val (.int (own_b ((0 : Int32) < (((0 : Int32) + (1 : Int32)) + (1 : Int32))))), .val (.int (own_b (((own_pl (0 : Int32) nv) + mv) < (own_ps (0 : Int32) (((0 : Int32) + (1 : Int32)) + (1 : Int32)) nv))))] [(.int (1 : Int32)), (.int (own_b ((0 : Int32) < (((0 : Int32) + (1 : Int32)) + (1 : Int32)))))])) _
          refine XS.goto X96.here hx rfl (pc0 := 172) (pc' := 176) rfl (hb hby at_172) (by decide) (by decide) ?_
          show Steps p.tables e below (T96.setTop (mkF m 176 #[.val (.int p0), .val (.int p1), .val (.int p2), .val (.int p3), .val (.int (0 : Int32)), .val (.int (own_b (¬ ((p0 &&& (2 : Int32)) = (0 : Int32))))), .val (.int (2 : Int32)), .val (.int mv), .val (.int nv), .val (.ref b77), .val (.int (own_b ((0 : Int32) < (((0 : Int32) + (1 : Int32)) + (1 : Int32))))), .val (.int (own_b (((own_pl (0 : Int32) nv) + mv) < (own_ps (0 : Int32) (((0 : Int32) + (1 : Int32)) + (1 : Int32)) nv))))] [(.int (1 : Int32)), (.int (own_b ((0 : Int32) < (((0 : Int32) + (1 : Int32)) + (1 : Int32)))))])) _
          refine XS.icmpNo X96.here hx rfl (hb hby at_176) rfl (teq (by decide)).2 ?_
          show Steps p.tables e below (T96.setTop (mkF m 179 #[.val (.int p0), .val (.int p1), .val (.int p2), .val (.int p3), .val (.int (0 : Int32)), .val (.int (own_b (¬ ((p0 &&& (2 : Int32)) = (0 : Int32))))), .val (.int (2 : Int32)), .val (.int mv), .val (.int nv), .val (.ref b77), .val (.int (own_b ((0 : Int32) < (((0 : Int32) + (1 : Int32)) + (1 : Int32))))), .val (.int (own_b (((own_pl (0 : Int32) nv) + mv) < (own_ps (0 : Int32) (((0 : Int32) + (1 : Int32)) + (1 : Int32)) nv))))] [])) _
          refine XS.iload X96.here hx rfl (hb hby at_179) rfl  ?_
          show Steps p.tables e below (T96.setTop (mkF m 181 #[.val (.int p0), .val (.int p1), .val (.int p2), .val (.int p3), .val (.int (0 : Int32)), .val (.int (own_b (¬ ((p0 &&& (2 : Int32)) = (0 : Int32))))), .val (.int (2 : Int32)), .val (.int mv), .val (.int nv), .val (.ref b77), .val (.int (own_b ((0 : Int32) < (((0 : Int32) + (1 : Int32)) + (1 : Int32))))), .val (.int (own_b (((own_pl (0 : Int32) nv) + mv) < (own_ps (0 : Int32) (((0 : Int32) + (1 : Int32)) + (1 : Int32)) nv))))] [(.int (own_b (((own_pl (0 : Int32) nv) + mv) < (own_ps (0 : Int32) (((0 : Int32) + (1 : Int32)) + (1 : Int32)) nv))))])) _
          refine XS.iload X96.here hx rfl (hb hby at_181) rfl  ?_
          show Steps p.tables e below (T96.setTop (mkF m 183 #[.val (.int p0), .val (.int p1), .val (.int p2), .val (.int p3), .val (.int (0 : Int32)), .val (.int (own_b (¬ ((p0 &&& (2 : Int32)) = (0 : Int32))))), .val (.int (2 : Int32)), .val (.int mv), .val (.int nv), .val (.ref b77), .val (.int (own_b ((0 : Int32) < (((0 : Int32) + (1 : Int32)) + (1 : Int32))))), .val (.int (own_b (((own_pl (0 : Int32) nv) + mv) < (own_ps (0 : Int32) (((0 : Int32) + (1 : Int32)) + (1 : Int32)) nv))))] [(.int (2 : Int32)), (.int (own_b (((own_pl (0 : Int32) nv) + mv) < (own_ps (0 : Int32) (((0 : Int32) + (1 : Int32)) + (1 : Int32)) nv))))])) _
          refine XS.iload X96.here hx rfl (hb hby at_183) rfl  ?_
          show Steps p.tables e below (T96.setTop (mkF m 185 #[.val (.int p0), .val (.int p1), .val (.int p2), .val (.int p3), .val (.int (0 : Int32)), .val (.int (own_b (¬ ((p0 &&& (2 : Int32)) = (0 : Int32))))), .val (.int (2 : Int32)), .val (.int mv), .val (.int nv), .val (.ref b77), .val (.int (own_b ((0 : Int32) < (((0 : Int32) + (1 : Int32)) + (1 : Int32))))), .val (.int (own_b (((own_pl (0 : Int32) nv) + mv) < (own_ps (0 : Int32) (((0 : Int32) + (1 : Int32)) + (1 : Int32)) nv))))] [(.int mv), (.int (2 : Int32)), (.int (own_b (((own_pl (0 : Int32) nv) + mv) < (own_ps (0 : Int32) (((0 : Int32) + (1 : Int32)) + (1 : Int32)) nv))))])) _
          refine XS.isub X96.here hx rfl (hb hby at_185) rfl ?_
          show Steps p.tables e below (T96.setTop (mkF m 186 #[.val (.int p0), .val (.int p1), .val (.int p2), .val (.int p3), .val (.int (0 : Int32)), .val (.int (own_b (¬ ((p0 &&& (2 : Int32)) = (0 : Int32))))), .val (.int (2 : Int32)), .val (.int mv), .val (.int nv), .val (.ref b77), .val (.int (own_b ((0 : Int32) < (((0 : Int32) + (1 : Int32)) + (1 : Int32))))), .val (.int (own_b (((own_pl (0 : Int32) nv) + mv) < (own_ps (0 : Int32) (((0 : Int32) + (1 : Int32)) + (1 : Int32)) nv))))] [(.int ((2 : Int32) - mv)), (.int (own_b (((own_pl (0 : Int32) nv) + mv) < (own_ps (0 : Int32) (((0 : Int32) + (1 : Int32)) + (1 : Int32)) nv))))])) _
          refine XS.iload X96.here hx rfl (hb hby at_186) rfl  ?_
          show Steps p.tables e below (T96.setTop (mkF m 188 #[.val (.int p0), .val (.int p1), .val (.int p2), .val (.int p3), .val (.int (0 : Int32)), .val (.int (own_b (¬ ((p0 &&& (2 : Int32)) = (0 : Int32))))), .val (.int (2 : Int32)), .val (.int mv), .val (.int nv), .val (.ref b77), .val (.int (own_b ((0 : Int32) < (((0 : Int32) + (1 : Int32)) + (1 : Int32))))), .val (.int (own_b (((own_pl (0 : Int32) nv) + mv) < (own_ps (0 : Int32) (((0 : Int32) + (1 : Int32)) + (1 : Int32)) nv))))] [(.int nv), (.int ((2 : Int32) - mv)), (.int (own_b (((own_pl (0 : Int32) nv) + mv) < (own_ps (0 : Int32) (((0 : Int32) + (1 : Int32)) + (1 : Int32)) nv))))])) _
          refine XS.isub X96.here hx rfl (hb hby at_188) rfl ?_
          exact kZ)
        have pre99 : ∀ tZ, Steps p.tables e below (T96.setTop (mkF m 197 #[.val (.int p0), .val (.int p1), .val (.int p2), .val (.int p3), .val (.int (0 : Int32)), .val (.int (own_b (¬ ((p0 &&& (2 : Int32)) = (0 : Int32))))), .val (.int (2 : Int32)), .val (.int mv), .val (.int nv), .val (.ref b77), .val (.int (own_b ((0 : Int32) < (((0 : Int32) + (1 : Int32)) + (1 : Int32))))), .val (.int (own_b (((own_pl (0 : Int32) nv) + mv) < (own_ps (0 : Int32) (((0 : Int32) + (1 : Int32)) + (1 : Int32)) nv))))] [(.int (own_b ((0 : Int32) < (((2 : Int32) - mv) - nv)))), (.int (own_b (((own_pl (0 : Int32) nv) + mv) < (own_ps (0 : Int32) (((0 : Int32) + (1 : Int32)) + (1 : Int32)) nv))))])) tZ → Steps p.tables e below (s₁.setTop (entryFrame m #[(.int p0), (.int p1), (.int p2), (.int p3)] maxLocals)) tZ := fun tZ kZ => pre97 tZ (by
          by_cases hc98 : (0 : Int32) < (((2 : Int32) - mv) - nv)
          ·  -- yes
            show Steps p.tables e below (T96.setTop (mkF m 189 #[.val (.int p0), .val (.int p1), .val (.int p2), .val (.int p3), .val (.int (0 : Int32)), .val (.int (own_b (¬ ((p0 &&& (2 : Int32)) = (0 : Int32))))), .val (.int (2 : Int32)), .val (.int mv), .val (.int nv), .val (.ref b77), .val (.int (own_b ((0 : Int32) < (((0 : Int32) + (1 : Int32)) + (1 : Int32))))), .val (.int (own_b (((own_pl (0 : Int32) nv) + mv) < (own_ps (0 : Int32) (((0 : Int32) + (1 : Int32)) + (1 : Int32)) nv))))] [(.int (((2 : Int32) - mv) - nv)), (.int (own_b (((own_pl (0 : Int32) nv) + mv) < (own_ps (0 : Int32) (((0 : Int32) + (1 : Int32)) + (1 : Int32)) nv))))])) _
            refine XS.ifNo X96.here hx rfl (hb hby at_189) rfl ((if0 _ _).trans (tlt hc98).2.2.2) ?_
            show Steps p.tables e below (T96.setTop (mkF m 192 #[.val (.int p0), .val (.int p1), .val (.int p2), .val (.int p3), .val (.int (0 : Int32)), .val (.int (own_b (¬ ((p0 &&& (2 : Int32)) = (0 : Int32))))), .val (.int (2 : Int32)), .val (.int mv), .val (.int nv), .val (.ref b77), .val (.int (own_b ((0 : Int32) < (((0 : Int32) + (1 : Int32)) + (1 : Int32))))), .val (.int (own_b (((own_pl (0 : Int32) nv) + mv) < (own_ps (0 : Int32) (((0 : Int32) + (1 : Int32)) + (1 : Int32)) nv))))] [(.int (own_b (((own_pl (0 : Int32) nv) + mv) < (own_ps (0 : Int32) (((0 : Int32) + (1 : Int32)) + (1 : Int32)) nv))))])) _
            refine XS.iconst X96.here hx rfl (hb hby at_192) ?_
            show Steps p.tables e below (T96.setTop (mkF m 193 #[.val (.int p0), .val (.int p1), .val (.int p2), .val (.int p3), .val (.int (0 : Int32)), .val (.int (own_b (¬ ((p0 &&& (2 : Int32)) = (0 : Int32))))), .val (.int (2 : Int32)), .val (.int mv), .val (.int nv), .val (.ref b77), .val (.int (own_b ((0 : Int32) < (((0 : Int32) + (1 : Int32)) + (1 : Int32))))), .val (.int (own_b (((own_pl (0 : Int32) nv) + mv) < (own_ps (0 : Int32) (((0 : Int32) + (1 : Int32)) + (1 : Int32)) nv))))] [(.int (1 : Int32)), (.int (own_b (((own_pl (0 : Int32) nv) + mv) < (own_ps (0 : Int32) (((0 : Int32) + (1 : Int32)) + (1 : Int32)) nv))))])) _
            refine XS.goto X96.here hx rfl (pc0 := 193) (pc' := 197) rfl (hb hby at_193) (by decide) (by decide) ?_
            have ekZ : (own_b ((0 : Int32) < (((2 : Int32) - mv) - nv))) = (1 : Int32) := by first | (simp only [own_b, eq_true hc98, and_true, true_and, and_false, false_and, or_true, true_or, or_false, false_or, not_true_eq_false, not_false_eq_true, if_true, if_false, reduceIte]; done) | (simp [own_b, hc98]; done)
            rw [ekZ] at kZ
            exact kZ
          ·  -- no
            show Steps p.tables e below (T96.setTop (mkF m 189 #[.val (.int p0), .val (.int p1), .val (.int p2), .val (.int p3), .val (.int (0 : Int32)), .val (.int (own_b (¬ ((p0 &&& (2 : Int32)) = (0 : Int32))))), .val (.int (2 : Int32)), .val (.int mv), .val (.int nv), .val (.ref b77), .val (.int (own_b ((0 : Int32) < (((0 : Int32) + (1 : Int32)) + (1 : Int32))))), .val (.int (own_b (((own_pl (0 : Int32) nv) + mv) < (own_ps (0 : Int32) (((0 : Int32) + (1 : Int32)) + (1 : Int32)) nv))))] [(.int (((2 : Int32) - mv) - nv)), (.int (own_b (((own_pl (0 : Int32) nv) + mv) < (own_ps (0 : Int32) (((0 : Int32) + (1 : Int32)) + (1 : Int32)) nv))))])) _
            refine XS.ifYes X96.here hx rfl (pc0 := 189) (pc' := 196) rfl (hb hby at_189) rfl ((if0 _ _).trans (flt hc98).2.2.2) (by decide) (by decide) ?_
            show Steps p.tables e below (T96.setTop (mkF m 196 #[.val (.int p0), .val (.int p1), .val (.int p2), .val (.int p3), .val (.int (0 : Int32)), .val (.int (own_b (¬ ((p0 &&& (2 : Int32)) = (0 : Int32))))), .val (.int (2 : Int32)), .val (.int mv), .val (.int nv), .val (.ref b77), .val (.int (own_b ((0 : Int32) < (((0 : Int32) + (1 : Int32)) + (1 : Int32))))), .val (.int (own_b (((own_pl (0 : Int32) nv) + mv) < (own_ps (0 : Int32) (((0 : Int32) + (1 : Int32)) + (1 : Int32)) nv))))] [(.int (own_b (((own_pl (0 : Int32) nv) + mv) < (own_ps (0 : Int32) (((0 : Int32) + (1 : Int32)) + (1 : Int32)) nv))))])) _
            refine XS.iconst X96.here hx rfl (hb hby at_196) ?_
            have ekZ : (own_b ((0 : Int32) < (((2 : Int32) - mv) - nv))) = (0 : Int32) := by first | (simp only [own_b, eq_false hc98, and_true, true_and, and_false, false_and, or_true, true_or, or_false, false_or, not_true_eq_false, not_false_eq_true, if_true, if_false, reduceIte]; done) | (simp [own_b, hc98]; done)
            rw [ekZ] at kZ
            exact kZ)
        obtain ⟨fsZ, hrZ, hrun, hended, hW, hsame⟩ := X96.leave (v := some (.int (1 : Int32))) (fun h => by rw [Bd.returns] at h; cases h)
        refine ⟨_, _, pre99 _ ?_, hrun, hended, _, _, rfl, ?_, ⟨_, rfl⟩, hW, hsame.mono (by decide) (by decide)⟩
        · show Steps p.tables e below (T96.setTop (mkF m 197 #[.val (.int p0), .val (.int p1), .val (.int p2), .val (.int p3), .val (.int (0 : Int32)), .val (.int (own_b (¬ ((p0 &&& (2 : Int32)) = (0 : Int32))))), .val (.int (2 : Int32)), .val (.int mv), .val (.int nv), .val (.ref b77), .val (.int (own_b ((0 : Int32) < (((0 : Int32) + (1 : Int32)) + (1 : Int32))))), .val (.int (own_b (((own_pl (0 : Int32) nv) + mv) < (own_ps (0 : Int32) (((0 : Int32) + (1 : Int32)) + (1 : Int32)) nv))))] [(.int (own_b ((0 : Int32) < (((2 : Int32) - mv) - nv)))), (.int (own_b (((own_pl (0 : Int32) nv) + mv) < (own_ps (0 : Int32) (((0 : Int32) + (1 : Int32)) + (1 : Int32)) nv))))])) _
          refine XS.icmpNo X96.here hx rfl (hb hby at_197) rfl (teq (own_fin_p (by decide) hm4 hn4 hm3.2.2 hn3.2.2)).2 ?_
          show Steps p.tables e below (T96.setTop (mkF m 200 #[.val (.int p0), .val (.int p1), .val (.int p2), .val (.int p3), .val (.int (0 : Int32)), .val (.int (own_b (¬ ((p0 &&& (2 : Int32)) = (0 : Int32))))), .val (.int (2 : Int32)), .val (.int mv), .val (.int nv), .val (.ref b77), .val (.int (own_b ((0 : Int32) < (((0 : Int32) + (1 : Int32)) + (1 : Int32))))), .val (.int (own_b (((own_pl (0 : Int32) nv) + mv) < (own_ps (0 : Int32) (((0 : Int32) + (1 : Int32)) + (1 : Int32)) nv))))] [])) _
          refine XS.iconst X96.here hx rfl (hb hby at_200) ?_
          show Steps p.tables e below (T96.setTop (mkF m 201 #[.val (.int p0), .val (.int p1), .val (.int p2), .val (.int p3), .val (.int (0 : Int32)), .val (.int (own_b (¬ ((p0 &&& (2 : Int32)) = (0 : Int32))))), .val (.int (2 : Int32)), .val (.int mv), .val (.int nv), .val (.ref b77), .val (.int (own_b ((0 : Int32) < (((0 : Int32) + (1 : Int32)) + (1 : Int32))))), .val (.int (own_b (((own_pl (0 : Int32) nv) + mv) < (own_ps (0 : Int32) (((0 : Int32) + (1 : Int32)) + (1 : Int32)) nv))))] [(.int (1 : Int32))])) _
          refine XS.goto X96.here hx rfl (pc0 := 201) (pc' := 205) rfl (hb hby at_201) (by decide) (by decide) ?_
          show Steps p.tables e below (T96.setTop (mkF m 205 #[.val (.int p0), .val (.int p1), .val (.int p2), .val (.int p3), .val (.int (0 : Int32)), .val (.int (own_b (¬ ((p0 &&& (2 : Int32)) = (0 : Int32))))), .val (.int (2 : Int32)), .val (.int mv), .val (.int nv), .val (.ref b77), .val (.int (own_b ((0 : Int32) < (((0 : Int32) + (1 : Int32)) + (1 : Int32))))), .val (.int (own_b (((own_pl (0 : Int32) nv) + mv) < (own_ps (0 : Int32) (((0 : Int32) + (1 : Int32)) + (1 : Int32)) nv))))] [(.int (1 : Int32))])) _
          exact retN X96 hx (t := .boolean) Bd.returns (by simp) (hb hby at_205) hrZ
        · show Q0 Z p0 p1 p2 p3 h0 n0 _ T96.heap _
          rw [e96]
          exact ⟨rfl, N96⟩
      ·  -- no
        obtain ⟨_, _, ⟨T100, L100, k100, n100⟩, -, X100, ⟨Lc100, hQ100, l100, y100, z100⟩, st100⟩ := Jvm.LawKit.callS X88 hx (y := (⟨oL, "doMarks", "(Lcom/example/portunus/portunus/policy/Run;I)V"⟩ : MethodName)) hown (mvT hZ (ow hw 45 rfl)) (mvT hZ (ow hw 46 rfl)) (mvT hZ (ow hw 47 rfl)) (mvT hZ (ow hw 48 rfl)) (by decide) (backOf (W := 0) (rm8n l Z a0 hw [] b77 mv tk_80 (((0 : Int32) + (1 : Int32)) + (1 : Int32)) (0 : Int32) (0 : Int32) kt_81 T86.heap n0 Z87 f86_0 f86_1 f86_2 f86_3 f86_4 f86_5 f86_6 gn_b77 u79_0 ne83 hm4) hZ (ow hw 48 rfl) (ow hw 47 rfl) (by decide) (by decide)) (g := (mkF m 147 #[.val (.int p0), .val (.int p1), .val (.int p2), .val (.int p3), .val (.int (0 : Int32)), .val (.int (own_b (¬ ((p0 &&& (2 : Int32)) = (0 : Int32))))), .val (.int (2 : Int32)), .val (.int mv), .val (.int nv), .val (.ref b77), .val (.int (own_b ((0 : Int32) < (((0 : Int32) + (1 : Int32)) + (1 : Int32))))), .unset] [(.int mv), (.ref b77)])) rfl (by rw [hml]; rfl) (argsL := [(.ref b77), (.int mv)]) (rest := []) (lenOf pd9 rfl) rfl (by show 2 * 0 + _ ≤ _; exact Nat.le_of_eq rfl) (hb hby at_147) (fun _ _ => ⟨rfl, e88, (by decide : 2 + 0 ≤ _), (by decide : 13 + 0 ≤ _)⟩)
        dsimp only [Pt.U, Pt.locs, Pt.cells, Pt.slots] at X100 l100 y100 z100 st100 hQ100
        subst l100 y100 z100
        obtain ⟨rfl, N100q, K100, f100_0, f100_1, f100_2, f100_3, f100_4, f100_5, f100_6⟩ := hQ100
        have N100 := Fr.app N88 N100q
        have Z101 : n0 ≤ T100.heap.size := Nat.le_trans Z87 K100.1
        obtain ⟨_, _, ⟨T102, L102, k102, n102⟩, -, X102, ⟨Lc102, hQ102, l102, y102, z102⟩, st102⟩ := Jvm.LawKit.callS X100 hx (y := (⟨oL, "doPolls", "(Lcom/example/portunus/portunus/policy/Run;I)V"⟩ : MethodName)) hown (mvT hZ (ow hw 54 rfl)) (mvT hZ (ow hw 55 rfl)) (mvT hZ (ow hw 47 rfl)) (mvT hZ (ow hw 56 rfl)) (by decide) (backOf (W := 0) (rm10n l Z a0 hw [] b77 nv tk_80 (((0 : Int32) + (1 : Int32)) + (1 : Int32)) ((0 : Int32) + mv) (0 : Int32) kt_81 T100.heap n0 Z101 f100_0 f100_1 f100_2 f100_3 f100_4 f100_5 f100_6 gn_b77 u79_0 ne83 hn4 (own_nz1 hm4)) hZ (ow hw 56 rfl) (ow hw 47 rfl) (by decide) (by decide)) (g := (mkF m 154 #[.val (.int p0), .val (.int p1), .val (.int p2), .val (.int p3), .val (.int (0 : Int32)), .val (.int (own_b (¬ ((p0 &&& (2 : Int32)) = (0 : Int32))))), .val (.int (2 : Int32)), .val (.int mv), .val (.int nv), .val (.ref b77), .val (.int (own_b ((0 : Int32) < (((0 : Int32) + (1 : Int32)) + (1 : Int32))))), .unset] [(.int nv), (.ref b77)])) rfl (by rw [hml]; rfl) (argsL := [(.ref b77), (.int nv)]) (rest := []) (lenOf pd9 rfl) rfl (by show 2 * 0 + _ ≤ _; exact Nat.le_of_eq rfl) (hb hby at_154) (fun _ _ => ⟨rfl, rfl, (by decide : 2 + 0 ≤ _), (by decide : 13 + 0 ≤ _)⟩)
        dsimp only [Pt.U, Pt.locs, Pt.cells, Pt.slots] at X102 l102 y102 z102 st102 hQ102
        subst l102 y102 z102
        obtain ⟨fn_103, rfl, N102q, K102, f102_0, f102_1, f102_2, f102_3, f102_4, f102_5, f102_6⟩ := hQ102
        have N102 := Fr.app N100 N102q
        have Z104 : n0 ≤ T102.heap.size := Nat.le_trans Z101 K102.1
        obtain ⟨cq105, kq105, q105a, q105b, q105c⟩ := isOf hZ rfl f102_0
        obtain ⟨_, _, ⟨T105, L105, k105, n105⟩, -, X105, ⟨Lc105, hQ105, l105, y105, z105⟩, st105⟩ := X102.virtualBack hx (y := (⟨oR, "hasOther", "()Z"⟩ : MethodName)) (z := (⟨oR, "hasOther", "()Z"⟩ : MethodName)) hown (mvT hZ (ow hw 38 rfl)) (mvT hZ (ow hw 39 rfl)) (notFace_of_selects (args := #[]) (mvT hZ (ow hw 41 rfl))) (mvT hZ (ow hw 41 rfl)) (mvT hZ (ow hw 40 rfl)) (by decide) (backOf (W := 0) (rm7 l Z a0 hw [] b77 (own_ps ((0 : Int32) + mv) (((0 : Int32) + (1 : Int32)) + (1 : Int32)) nv) (own_pl ((0 : Int32) + mv) nv) T102.heap n0 Z104 f102_3 f102_4) hZ (ow hw 42 rfl) (ow hw 7 rfl) (by decide) (by decide)) q105a q105c (g := (mkF m 159 #[.val (.int p0), .val (.int p1), .val (.int p2), .val (.int p3), .val (.int (0 : Int32)), .val (.int (own_b (¬ ((p0 &&& (2 : Int32)) = (0 : Int32))))), .val (.int (2 : Int32)), .val (.int mv), .val (.int nv), .val (.ref b77), .val (.int (own_b ((0 : Int32) < (((0 : Int32) + (1 : Int32)) + (1 : Int32))))), .unset] [(.ref b77)])) rfl (by rw [hml]; rfl) (Steps.refl _) (argsL := []) (rest := []) (lenOf pd8 rfl) rfl (by show 2 * 0 + _ ≤ _; exact Nat.le_of_eq rfl) (hb hby at_159) (fun _ _ => ⟨rfl, rfl, (by decide : 2 + 0 ≤ _), (by decide : 13 + 0 ≤ _)⟩)
        dsimp only [Pt.U, Pt.locs, Pt.cells, Pt.slots] at X105 l105 y105 z105 st105 hQ105
        subst l105 y105 z105
        obtain ⟨rfl, N105q, e105⟩ := hQ105
        have N105 := Fr.app N102 N105q
        have pre106 : ∀ tZ, Steps p.tables e below (T105.setTop (mkF m 189 #[.val (.int p0), .val (.int p1), .val (.int p2), .val (.int p3), .val (.int (0 : Int32)), .val (.int (own_b (¬ ((p0 &&& (2 : Int32)) = (0 : Int32))))), .val (.int (2 : Int32)), .val (.int mv), .val (.int nv), .val (.ref b77), .val (.int (own_b ((0 : Int32) < (((0 : Int32) + (1 : Int32)) + (1 : Int32))))), .val (.int (own_b ((own_pl ((0 : Int32) + mv) nv) < (own_ps ((0 : Int32) + mv) (((0 : Int32) + (1 : Int32)) + (1 : Int32)) nv))))] [(.int (((2 : Int32) - mv) - nv)), (.int (own_b ((own_pl ((0 : Int32) + mv) nv) < (own_ps ((0 : Int32) + mv) (((0 : Int32) + (1 : Int32)) + (1 : Int32)) nv))))])) tZ → Steps p.tables e below (s₁.setTop (entryFrame m #[(.int p0), (.int p1), (.int p2), (.int p3)] maxLocals)) tZ := fun tZ kZ => pre89 tZ (by
          show Steps p.tables e below (T88.setTop (mkF m 123 #[.val (.int p0), .val (.int p1), .val (.int p2), .val (.int p3), .val (.int (0 : Int32)), .val (.int (own_b (¬ ((p0 &&& (2 : Int32)) = (0 : Int32))))), .val (.int (2 : Int32)), .val (.int mv), .val (.int nv), .val (.ref b77), .val (.int (own_b ((0 : Int32) < (((0 : Int32) + (1 : Int32)) + (1 : Int32))))), .unset] [(.int (own_b (¬ ((p0 &&& (2 : Int32)) = (0 : Int32)))))])) _
          refine XS.ifYes X88.here hx rfl (pc0 := 123) (pc' := 143) rfl (hb hby at_123) rfl ((if0 _ _).trans (teq (own_b_f hc90)).1) (by decide) (by decide) ?_
          show Steps p.tables e below (T88.setTop (mkF m 143 #[.val (.int p0), .val (.int p1), .val (.int p2), .val (.int p3), .val (.int (0 : Int32)), .val (.int (own_b (¬ ((p0 &&& (2 : Int32)) = (0 : Int32))))), .val (.int (2 : Int32)), .val (.int mv), .val (.int nv), .val (.ref b77), .val (.int (own_b ((0 : Int32) < (((0 : Int32) + (1 : Int32)) + (1 : Int32))))), .unset] [])) _
          refine XS.aload X88.here hx rfl (hb hby at_143) rfl rfl ?_
          show Steps p.tables e below (T88.setTop (mkF m 145 #[.val (.int p0), .val (.int p1), .val (.int p2), .val (.int p3), .val (.int (0 : Int32)), .val (.int (own_b (¬ ((p0 &&& (2 : Int32)) = (0 : Int32))))), .val (.int (2 : Int32)), .val (.int mv), .val (.int nv), .val (.ref b77), .val (.int (own_b ((0 : Int32) < (((0 : Int32) + (1 : Int32)) + (1 : Int32))))), .unset] [(.ref b77)])) _
          refine XS.iload X88.here hx rfl (hb hby at_145) rfl  ?_
          show Steps p.tables e below (T88.setTop (mkF m 147 #[.val (.int p0), .val (.int p1), .val (.int p2), .val (.int p3), .val (.int (0 : Int32)), .val (.int (own_b (¬ ((p0 &&& (2 : Int32)) = (0 : Int32))))), .val (.int (2 : Int32)), .val (.int mv), .val (.int nv), .val (.ref b77), .val (.int (own_b ((0 : Int32) < (((0 : Int32) + (1 : Int32)) + (1 : Int32))))), .unset] [(.int mv), (.ref b77)])) _
          refine st100 _ ?_
          show Steps p.tables e below (T100.setTop (mkF m 150 #[.val (.int p0), .val (.int p1), .val (.int p2), .val (.int p3), .val (.int (0 : Int32)), .val (.int (own_b (¬ ((p0 &&& (2 : Int32)) = (0 : Int32))))), .val (.int (2 : Int32)), .val (.int mv), .val (.int nv), .val (.ref b77), .val (.int (own_b ((0 : Int32) < (((0 : Int32) + (1 : Int32)) + (1 : Int32))))), .unset] [])) _
          refine XS.aload X100.here hx rfl (hb hby at_150) rfl rfl ?_
          show Steps p.tables e below (T100.setTop (mkF m 152 #[.val (.int p0), .val (.int p1), .val (.int p2), .val (.int p3), .val (.int (0 : Int32)), .val (.int (own_b (¬ ((p0 &&& (2 : Int32)) = (0 : Int32))))), .val (.int (2 : Int32)), .val (.int mv), .val (.int nv), .val (.ref b77), .val (.int (own_b ((0 : Int32) < (((0 : Int32) + (1 : Int32)) + (1 : Int32))))), .unset] [(.ref b77)])) _
          refine XS.iload X100.here hx rfl (hb hby at_152) rfl  ?_
          show Steps p.tables e below (T100.setTop (mkF m 154 #[.val (.int p0), .val (.int p1), .val (.int p2), .val (.int p3), .val (.int (0 : Int32)), .val (.int (own_b (¬ ((p0 &&& (2 : Int32)) = (0 : Int32))))), .val (.int (2 : Int32)), .val (.int mv), .val (.int nv), .val (.ref b77), .val (.int (own_b ((0 : Int32) < (((0 : Int32) + (1 : Int32)) + (1 : Int32))))), .unset] [(.int nv), (.ref b77)])) _
          refine st102 _ ?_
          show Steps p.tables e below (T102.setTop (mkF m 157 #[.val (.int p0), .val (.int p1), .val (.int p2), .val (.int p3), .val (.int (0 : Int32)), .val (.int (own_b (¬ ((p0 &&& (2 : Int32)) = (0 : Int32))))), .val (.int (2 : Int32)), .val (.int mv), .val (.int nv), .val (.ref b77), .val (.int (own_b ((0 : Int32) < (((0 : Int32) + (1 : Int32)) + (1 : Int32))))), .unset] [])) _
          refine XS.aload X102.here hx rfl (hb hby at_157) rfl rfl ?_
          show Steps p.tables e below (T102.setTop (mkF m 159 #[.val (.int p0), .val (.int p1), .val (.int p2), .val (.int p3), .val (.int (0 : Int32)), .val (.int (own_b (¬ ((p0 &&& (2 : Int32)) = (0 : Int32))))), .val (.int (2 : Int32)), .val (.int mv), .val (.int nv), .val (.ref b77), .val (.int (own_b ((0 : Int32) < (((0 : Int32) + (1 : Int32)) + (1 : Int32))))), .unset] [(.ref b77)])) _
          refine st105.trans ?_
          show Steps p.tables e below (T105.setTop (mkF m 162 #[.val (.int p0), .val (.int p1), .val (.int p2), .val (.int p3), .val (.int (0 : Int32)), .val (.int (own_b (¬ ((p0 &&& (2 : Int32)) = (0 : Int32))))), .val (.int (2 : Int32)), .val (.int mv), .val (.int nv), .val (.ref b77), .val (.int (own_b ((0 : Int32) < (((0 : Int32) + (1 : Int32)) + (1 : Int32))))), .unset] [(.int (own_b ((own_pl ((0 : Int32) + mv) nv) < (own_ps ((0 : Int32) + mv) (((0 : Int32) + (1 : Int32)) + (1 : Int32)) nv))))])) _
          refine XS.istore X105.here hx rfl (hb hby at_162) rfl (l' := #[.val (.int p0), .val (.int p1), .val (.int p2), .val (.int p3), .val (.int (0 : Int32)), .val (.int (own_b (¬ ((p0 &&& (2 : Int32)) = (0 : Int32))))), .val (.int (2 : Int32)), .val (.int mv), .val (.int nv), .val (.ref b77), .val (.int (own_b ((0 : Int32) < (((0 : Int32) + (1 : Int32)) + (1 : Int32))))), .val (.int (own_b ((own_pl ((0 : Int32) + mv) nv) < (own_ps ((0 : Int32) + mv) (((0 : Int32) + (1 : Int32)) + (1 : Int32)) nv))))]) rfl ?_
          show Steps p.tables e below (T105.setTop (mkF m 164 #[.val (.int p0), .val (.int p1), .val (.int p2), .val (.int p3), .val (.int (0 : Int32)), .val (.int (own_b (¬ ((p0 &&& (2 : Int32)) = (0 : Int32))))), .val (.int (2 : Int32)), .val (.int mv), .val (.int nv), .val (.ref b77), .val (.int (own_b ((0 : Int32) < (((0 : Int32) + (1 : Int32)) + (1 : Int32))))), .val (.int (own_b ((own_pl ((0 : Int32) + mv) nv) < (own_ps ((0 : Int32) + mv) (((0 : Int32) + (1 : Int32)) + (1 : Int32)) nv))))] [])) _
          refine XS.iload X105.here hx rfl (hb hby at_164) rfl  ?_
          show Steps p.tables e below (T105.setTop (mkF m 166 #[.val (.int p0), .val (.int p1), .val (.int p2), .val (.int p3), .val (.int (0 : Int32)), .val (.int (own_b (¬ ((p0 &&& (2 : Int32)) = (0 : Int32))))), .val (.int (2 : Int32)), .val (.int mv), .val (.int nv), .val (.ref b77), .val (.int (own_b ((0 : Int32) < (((0 : Int32) + (1 : Int32)) + (1 : Int32))))), .val (.int (own_b ((own_pl ((0 : Int32) + mv) nv) < (own_ps ((0 : Int32) + mv) (((0 : Int32) + (1 : Int32)) + (1 : Int32)) nv))))] [(.int (own_b ((0 : Int32) < (((0 : Int32) + (1 : Int32)) + (1 : Int32)))))])) _
          refine XS.iload X105.here hx rfl (hb hby at_166) rfl  ?_
          show Steps p.tables e below (T105.setTop (mkF m 168 #[.val (.int p0), .val (.int p1), .val (.int p2), .val (.int p3), .val (.int (0 : Int32)), .val (.int (own_b (¬ ((p0 &&& (2 : Int32)) = (0 : Int32))))), .val (.int (2 : Int32)), .val (.int mv), .val (.int nv), .val (.ref b77), .val (.int (own_b ((0 : Int32) < (((0 : Int32) + (1 : Int32)) + (1 : Int32))))), .val (.int (own_b ((own_pl ((0 : Int32) + mv) nv) < (own_ps ((0 : Int32) + mv) (((0 : Int32) + (1 : Int32)) + (1 : Int32)) nv))))] [(.int (2 : Int32)), (.int (own_b ((0 : Int32) < (((0 : Int32) + (1 : Int32)) + (1 : Int32)))))])) _
          refine XS.ifNo X105.here hx rfl (hb hby at_168) rfl ((if0 _ _).trans (tlt (by decide)).2.2.2) ?_
          show Steps p.tables e below (T105.setTop (mkF m 171 #[.val (.int p0), .val (.int p1), .val (.int p2), .val (.int p3), .val (.int (0 : Int32)), .val (.int (own_b (¬ ((p0 &&& (2 : Int32)) = (0 : Int32))))), .val (.int (2 : Int32)), .val (.int mv), .val (.int nv), .val (.ref b77), .val (.int (own_b ((0 : Int32) < (((0 : Int32) + (1 : Int32)) + (1 : Int32))))), .val (.int (own_b ((own_pl ((0 : Int32) + mv) nv) < (own_ps ((0 : Int32) + mv) (((0 : Int32) + (1 : Int32)) + (1 : Int32)) nv))))] [(.int (own_b ((0 : Int32) < (((0 : Int32) + (1 : Int32)) + (1 : Int32)))))])) _
          refine XS.iconst X105.here hx rfl (hb hby at_171) ?_
          show Steps p.tables e below (T105.setTop (mkF m 172 #[.val (.int p0), .val (.int p1), .val (.int p2), .val (.int p3), .val (.int (0 : Int32)), .val (.int (own_b (¬ ((p0 &&& (2 : Int32)) = (0 : Int32))))), .val (.int (2 : Int32)), .val (.int mv), .val (.int nv), .val (.ref b77), .val (.int (own_b ((0 : Int32) < (((0 : Int32) + (1 : Int32)) + (1 : Int32))))), .val (.int (own_b ((own_pl ((0 : Int32) + mv) nv) < (own_ps ((0 : Int32) + mv) (((0 : Int32) + (1 : Int32)) + (1 : Int32)) nv))))] [(.int (1 : Int32)), (.int (own_b ((0 : Int32) < (((0 : Int32) + (1 : Int32)) + (1 : Int32)))))])) _
          refine XS.goto X105.here hx rfl (pc0 := 172) (pc' := 176) rfl (hb hby at_172) (by decide) (by decide) ?_
          show Steps p.tables e below (T105.setTop (mkF m 176 #[.val (.int p0), .val (.int p1), .val (.int p2), .val (.int p3), .val (.int (0 : Int32)), .val (.int (own_b (¬ ((p0 &&& (2 : Int32)) = (0 : Int32))))), .val (.int (2 : Int32)), .val (.int mv), .val (.int nv), .val (.ref b77), .val (.int (own_b ((0 : Int32) < (((0 : Int32) + (1 : Int32)) + (1 : Int32))))), .val (.int (own_b ((own_pl ((0 : Int32) + mv) nv) < (own_ps ((0 : Int32) + mv) (((0 : Int32) + (1 : Int32)) + (1 : Int32)) nv))))] [(.int (1 : Int32)), (.int (own_b ((0 : Int32) < (((0 : Int32) + (1 : Int32)) + (1 : Int32)))))])) _
          refine XS.icmpNo X105.here hx rfl (hb hby at_176) rfl (teq (by decide)).2 ?_
          show Steps p.tables e below (T105.setTop (mkF m 179 #[.val (.int p0), .val (.int p1), .val (.int p2), .val (.int p3), .val (.int (0 : Int32)), .val (.int (own_b (¬ ((p0 &&& (2 : Int32)) = (0 : Int32))))), .val (.int (2 : Int32)), .val (.int mv), .val (.int nv), .val (.ref b77), .val (.int (own_b ((0 : Int32) < (((0 : Int32) + (1 : Int32)) + (1 : Int32))))), .val (.int (own_b ((own_pl ((0 : Int32) + mv) nv) < (own_ps ((0 : Int32) + mv) (((0 : Int32) + (1 : Int32)) + (1 : Int32)) nv))))] [])) _
          refine XS.iload X105.here hx rfl (hb hby at_179) rfl  ?_
          show Steps p.tables e below (T105.setTop (mkF m 181 #[.val (.int p0), .val (.int p1), .val (.int p2), .val (.int p3), .val (.int (0 : Int32)), .val (.int (own_b (¬ ((p0 &&& (2 : Int32)) = (0 : Int32))))), .val (.int (2 : Int32)), .val (.int mv), .val (.int nv), .val (.ref b77), .val (.int (own_b ((0 : Int32) < (((0 : Int32) + (1 : Int32)) + (1 : Int32))))), .val (.int (own_b ((own_pl ((0 : Int32) + mv) nv) < (own_ps ((0 : Int32) + mv) (((0 : Int32) + (1 : Int32)) + (1 : Int32)) nv))))] [(.int (own_b ((own_pl ((0 : Int32) + mv) nv) < (own_ps ((0 : Int32) + mv) (((0 : Int32) + (1 : Int32)) + (1 : Int32)) nv))))])) _
          refine XS.iload X105.here hx rfl (hb hby at_181) rfl  ?_
          show Steps p.tables e below (T105.setTop (mkF m 183 #[.val (.int p0), .val (.int p1), .val (.int p2), .val (.int p3), .val (.int (0 : Int32)), .val (.int (own_b (¬ ((p0 &&& (2 : Int32)) = (0 : Int32))))), .val (.int (2 : Int32)), .val (.int mv), .val (.int nv), .val (.ref b77), .val (.int (own_b ((0 : Int32) < (((0 : Int32) + (1 : Int32)) + (1 : Int32))))), .val (.int (own_b ((own_pl ((0 : Int32) + mv) nv) < (own_ps ((0 : Int32) + mv) (((0 : Int32) + (1 : Int32)) + (1 : Int32)) nv))))] [(.int (2 : Int32)), (.int (own_b ((own_pl ((0 : Int32) + mv) nv) < (own_ps ((0 : Int32) + mv) (((0 : Int32) + (1 : Int32)) + (1 : Int32)) nv))))])) _
          refine XS.iload X105.here hx rfl (hb hby at_183) rfl  ?_
          show Steps p.tables e below (T105.setTop (mkF m 185 #[.val (.int p0), .val (.int p1), .val (.int p2), .val (.int p3), .val (.int (0 : Int32)), .val (.int (own_b (¬ ((p0 &&& (2 : Int32)) = (0 : Int32))))), .val (.int (2 : Int32)), .val (.int mv), .val (.int nv), .val (.ref b77), .val (.int (own_b ((0 : Int32) < (((0 : Int32) + (1 : Int32)) + (1 : Int32))))), .val (.int (own_b ((own_pl ((0 : Int32) + mv) nv) < (own_ps ((0 : Int32) + mv) (((0 : Int32) + (1 : Int32)) + (1 : Int32)) nv))))] [(.int mv), (.int (2 : Int32)), (.int (own_b ((own_pl ((0 : Int32) + mv) nv) < (own_ps ((0 : Int32) + mv) (((0 : Int32) + (1 : Int32)) + (1 : Int32)) nv))))])) _
          refine XS.isub X105.here hx rfl (hb hby at_185) rfl ?_
          show Steps p.tables e below (T105.setTop (mkF m 186 #[.val (.int p0), .val (.int p1), .val (.int p2), .val (.int p3), .val (.int (0 : Int32)), .val (.int (own_b (¬ ((p0 &&& (2 : Int32)) = (0 : Int32))))), .val (.int (2 : Int32)), .val (.int mv), .val (.int nv), .val (.ref b77), .val (.int (own_b ((0 : Int32) < (((0 : Int32) + (1 : Int32)) + (1 : Int32))))), .val (.int (own_b ((own_pl ((0 : Int32) + mv) nv) < (own_ps ((0 : Int32) + mv) (((0 : Int32) + (1 : Int32)) + (1 : Int32)) nv))))] [(.int ((2 : Int32) - mv)), (.int (own_b ((own_pl ((0 : Int32) + mv) nv) < (own_ps ((0 : Int32) + mv) (((0 : Int32) + (1 : Int32)) + (1 : Int32)) nv))))])) _
          refine XS.iload X105.here hx rfl (hb hby at_186) rfl  ?_
          show Steps p.tables e below (T105.setTop (mkF m 188 #[.val (.int p0), .val (.int p1), .val (.int p2), .val (.int p3), .val (.int (0 : Int32)), .val (.int (own_b (¬ ((p0 &&& (2 : Int32)) = (0 : Int32))))), .val (.int (2 : Int32)), .val (.int mv), .val (.int nv), .val (.ref b77), .val (.int (own_b ((0 : Int32) < (((0 : Int32) + (1 : Int32)) + (1 : Int32))))), .val (.int (own_b ((own_pl ((0 : Int32) + mv) nv) < (own_ps ((0 : Int32) + mv) (((0 : Int32) + (1 : Int32)) + (1 : Int32)) nv))))] [(.int nv), (.int ((2 : Int32) - mv)), (.int (own_b ((own_pl ((0 : Int32) + mv) nv) < (own_ps ((0 : Int32) + mv) (((0 : Int32) + (1 : Int32)) + (1 : Int32)) nv))))])) _
          refine XS.isub X105.here hx rfl (hb hby at_188) rfl ?_
          exact kZ)
        have pre108 : ∀ tZ, Steps p.tables e below (T105.setTop (mkF m 197 #[.val (.int p0), .val (.int p1), .val (.int p2), .val (.int p3), .val (.int (0 : Int32)), .val (.int (own_b (¬ ((p0 &&& (2 : Int32)) = (0 : Int32))))), .val (.int (2 : Int32)), .val (.int mv), .val (.int nv), .val (.ref b77), .val (.int (own_b ((0 : Int32) < (((0 : Int32) + (1 : Int32)) + (1 : Int32))))), .val (.int (own_b ((own_pl ((0 : Int32) + mv) nv) < (own_ps ((0 : Int32) + mv) (((0 : Int32) + (1 : Int32)) + (1 : Int32)) nv))))] [(.int (own_b ((0 : Int32) < (((2 : Int32) - mv) - nv)))), (.int (own_b ((own_pl ((0 : Int32) + mv) nv) < (own_ps ((0 : Int32) + mv) (((0 : Int32) + (1 : Int32)) + (1 : Int32)) nv))))])) tZ → Steps p.tables e below (s₁.setTop (entryFrame m #[(.int p0), (.int p1), (.int p2), (.int p3)] maxLocals)) tZ := fun tZ kZ => pre106 tZ (by
          by_cases hc107 : (0 : Int32) < (((2 : Int32) - mv) - nv)
          ·  -- yes
            show Steps p.tables e below (T105.setTop (mkF m 189 #[.val (.int p0), .val (.int p1), .val (.int p2), .val (.int p3), .val (.int (0 : Int32)), .val (.int (own_b (¬ ((p0 &&& (2 : Int32)) = (0 : Int32))))), .val (.int (2 : Int32)), .val (.int mv), .val (.int nv), .val (.ref b77), .val (.int (own_b ((0 : Int32) < (((0 : Int32) + (1 : Int32)) + (1 : Int32))))), .val (.int (own_b ((own_pl ((0 : Int32) + mv) nv) < (own_ps ((0 : Int32) + mv) (((0 : Int32) + (1 : Int32)) + (1 : Int32)) nv))))] [(.int (((2 : Int32) - mv) - nv)), (.int (own_b ((own_pl ((0 : Int32) + mv) nv) < (own_ps ((0 : Int32) + mv) (((0 : Int32) + (1 : Int32)) + (1 : Int32)) nv))))])) _
            refine XS.ifNo X105.here hx rfl (hb hby at_189) rfl ((if0 _ _).trans (tlt hc107).2.2.2) ?_
            show Steps p.tables e below (T105.setTop (mkF m 192 #[.val (.int p0), .val (.int p1), .val (.int p2), .val (.int p3), .val (.int (0 : Int32)), .val (.int (own_b (¬ ((p0 &&& (2 : Int32)) = (0 : Int32))))), .val (.int (2 : Int32)), .val (.int mv), .val (.int nv), .val (.ref b77), .val (.int (own_b ((0 : Int32) < (((0 : Int32) + (1 : Int32)) + (1 : Int32))))), .val (.int (own_b ((own_pl ((0 : Int32) + mv) nv) < (own_ps ((0 : Int32) + mv) (((0 : Int32) + (1 : Int32)) + (1 : Int32)) nv))))] [(.int (own_b ((own_pl ((0 : Int32) + mv) nv) < (own_ps ((0 : Int32) + mv) (((0 : Int32) + (1 : Int32)) + (1 : Int32)) nv))))])) _
            refine XS.iconst X105.here hx rfl (hb hby at_192) ?_
            show Steps p.tables e below (T105.setTop (mkF m 193 #[.val (.int p0), .val (.int p1), .val (.int p2), .val (.int p3), .val (.int (0 : Int32)), .val (.int (own_b (¬ ((p0 &&& (2 : Int32)) = (0 : Int32))))), .val (.int (2 : Int32)), .val (.int mv), .val (.int nv), .val (.ref b77), .val (.int (own_b ((0 : Int32) < (((0 : Int32) + (1 : Int32)) + (1 : Int32))))), .val (.int (own_b ((own_pl ((0 : Int32) + mv) nv) < (own_ps ((0 : Int32) + mv) (((0 : Int32) + (1 : Int32)) + (1 : Int32)) nv))))] [(.int (1 : Int32)), (.int (own_b ((own_pl ((0 : Int32) + mv) nv) < (own_ps ((0 : Int32) + mv) (((0 : Int32) + (1 : Int32)) + (1 : Int32)) nv))))])) _
            refine XS.goto X105.here hx rfl (pc0 := 193) (pc' := 197) rfl (hb hby at_193) (by decide) (by decide) ?_
            have ekZ : (own_b ((0 : Int32) < (((2 : Int32) - mv) - nv))) = (1 : Int32) := by first | (simp only [own_b, eq_true hc107, and_true, true_and, and_false, false_and, or_true, true_or, or_false, false_or, not_true_eq_false, not_false_eq_true, if_true, if_false, reduceIte]; done) | (simp [own_b, hc107]; done)
            rw [ekZ] at kZ
            exact kZ
          ·  -- no
            show Steps p.tables e below (T105.setTop (mkF m 189 #[.val (.int p0), .val (.int p1), .val (.int p2), .val (.int p3), .val (.int (0 : Int32)), .val (.int (own_b (¬ ((p0 &&& (2 : Int32)) = (0 : Int32))))), .val (.int (2 : Int32)), .val (.int mv), .val (.int nv), .val (.ref b77), .val (.int (own_b ((0 : Int32) < (((0 : Int32) + (1 : Int32)) + (1 : Int32))))), .val (.int (own_b ((own_pl ((0 : Int32) + mv) nv) < (own_ps ((0 : Int32) + mv) (((0 : Int32) + (1 : Int32)) + (1 : Int32)) nv))))] [(.int (((2 : Int32) - mv) - nv)), (.int (own_b ((own_pl ((0 : Int32) + mv) nv) < (own_ps ((0 : Int32) + mv) (((0 : Int32) + (1 : Int32)) + (1 : Int32)) nv))))])) _
            refine XS.ifYes X105.here hx rfl (pc0 := 189) (pc' := 196) rfl (hb hby at_189) rfl ((if0 _ _).trans (flt hc107).2.2.2) (by decide) (by decide) ?_
            show Steps p.tables e below (T105.setTop (mkF m 196 #[.val (.int p0), .val (.int p1), .val (.int p2), .val (.int p3), .val (.int (0 : Int32)), .val (.int (own_b (¬ ((p0 &&& (2 : Int32)) = (0 : Int32))))), .val (.int (2 : Int32)), .val (.int mv), .val (.int nv), .val (.ref b77), .val (.int (own_b ((0 : Int32) < (((0 : Int32) + (1 : Int32)) + (1 : Int32))))), .val (.int (own_b ((own_pl ((0 : Int32) + mv) nv) < (own_ps ((0 : Int32) + mv) (((0 : Int32) + (1 : Int32)) + (1 : Int32)) nv))))] [(.int (own_b ((own_pl ((0 : Int32) + mv) nv) < (own_ps ((0 : Int32) + mv) (((0 : Int32) + (1 : Int32)) + (1 : Int32)) nv))))])) _
            refine XS.iconst X105.here hx rfl (hb hby at_196) ?_
            have ekZ : (own_b ((0 : Int32) < (((2 : Int32) - mv) - nv))) = (0 : Int32) := by first | (simp only [own_b, eq_false hc107, and_true, true_and, and_false, false_and, or_true, true_or, or_false, false_or, not_true_eq_false, not_false_eq_true, if_true, if_false, reduceIte]; done) | (simp [own_b, hc107]; done)
            rw [ekZ] at kZ
            exact kZ)
        obtain ⟨fsZ, hrZ, hrun, hended, hW, hsame⟩ := X105.leave (v := some (.int (1 : Int32))) (fun h => by rw [Bd.returns] at h; cases h)
        refine ⟨_, _, pre108 _ ?_, hrun, hended, _, _, rfl, ?_, ⟨_, rfl⟩, hW, hsame.mono (by decide) (by decide)⟩
        · show Steps p.tables e below (T105.setTop (mkF m 197 #[.val (.int p0), .val (.int p1), .val (.int p2), .val (.int p3), .val (.int (0 : Int32)), .val (.int (own_b (¬ ((p0 &&& (2 : Int32)) = (0 : Int32))))), .val (.int (2 : Int32)), .val (.int mv), .val (.int nv), .val (.ref b77), .val (.int (own_b ((0 : Int32) < (((0 : Int32) + (1 : Int32)) + (1 : Int32))))), .val (.int (own_b ((own_pl ((0 : Int32) + mv) nv) < (own_ps ((0 : Int32) + mv) (((0 : Int32) + (1 : Int32)) + (1 : Int32)) nv))))] [(.int (own_b ((0 : Int32) < (((2 : Int32) - mv) - nv)))), (.int (own_b ((own_pl ((0 : Int32) + mv) nv) < (own_ps ((0 : Int32) + mv) (((0 : Int32) + (1 : Int32)) + (1 : Int32)) nv))))])) _
          refine XS.icmpNo X105.here hx rfl (hb hby at_197) rfl (teq (own_fin_m (by decide) hm4 hn4 hm3.2.2 hn3.2.2)).2 ?_
          show Steps p.tables e below (T105.setTop (mkF m 200 #[.val (.int p0), .val (.int p1), .val (.int p2), .val (.int p3), .val (.int (0 : Int32)), .val (.int (own_b (¬ ((p0 &&& (2 : Int32)) = (0 : Int32))))), .val (.int (2 : Int32)), .val (.int mv), .val (.int nv), .val (.ref b77), .val (.int (own_b ((0 : Int32) < (((0 : Int32) + (1 : Int32)) + (1 : Int32))))), .val (.int (own_b ((own_pl ((0 : Int32) + mv) nv) < (own_ps ((0 : Int32) + mv) (((0 : Int32) + (1 : Int32)) + (1 : Int32)) nv))))] [])) _
          refine XS.iconst X105.here hx rfl (hb hby at_200) ?_
          show Steps p.tables e below (T105.setTop (mkF m 201 #[.val (.int p0), .val (.int p1), .val (.int p2), .val (.int p3), .val (.int (0 : Int32)), .val (.int (own_b (¬ ((p0 &&& (2 : Int32)) = (0 : Int32))))), .val (.int (2 : Int32)), .val (.int mv), .val (.int nv), .val (.ref b77), .val (.int (own_b ((0 : Int32) < (((0 : Int32) + (1 : Int32)) + (1 : Int32))))), .val (.int (own_b ((own_pl ((0 : Int32) + mv) nv) < (own_ps ((0 : Int32) + mv) (((0 : Int32) + (1 : Int32)) + (1 : Int32)) nv))))] [(.int (1 : Int32))])) _
          refine XS.goto X105.here hx rfl (pc0 := 201) (pc' := 205) rfl (hb hby at_201) (by decide) (by decide) ?_
          show Steps p.tables e below (T105.setTop (mkF m 205 #[.val (.int p0), .val (.int p1), .val (.int p2), .val (.int p3), .val (.int (0 : Int32)), .val (.int (own_b (¬ ((p0 &&& (2 : Int32)) = (0 : Int32))))), .val (.int (2 : Int32)), .val (.int mv), .val (.int nv), .val (.ref b77), .val (.int (own_b ((0 : Int32) < (((0 : Int32) + (1 : Int32)) + (1 : Int32))))), .val (.int (own_b ((own_pl ((0 : Int32) + mv) nv) < (own_ps ((0 : Int32) + mv) (((0 : Int32) + (1 : Int32)) + (1 : Int32)) nv))))] [(.int (1 : Int32))])) _
          exact retN X105 hx (t := .boolean) Bd.returns (by simp) (hb hby at_205) hrZ
        · show Q0 Z p0 p1 p2 p3 h0 n0 _ T105.heap _
          rw [e105]
          exact ⟨rfl, N105⟩
    ·  -- a = 3
      obtain ⟨_, _, ⟨T109, L109, k109, n109⟩, -, X109, ⟨Lc109, hQ109, l109, y109, z109⟩, st109⟩ := Jvm.LawKit.callS X0 hx (y := (⟨"java/lang/Math", "min", "(II)I"⟩ : MethodName)) hown (mvT hZ (ow hw 1 rfl)) (mvT hZ (ow hw 2 rfl)) (mvT hZ (ow hw 3 rfl)) (mvT hZ (ow hw 4 rfl)) (by decide) (backOf (W := 0) (rm1 l Z a0 hw [] ((p2 &&& (2147483647 : Int32)) % (3 : Int32)) (3 : Int32) h0 n0 Z0 ) hZ (ow hw 4 rfl) (ow hw 3 rfl) (by decide) (by decide)) (g := (mkF m 39 #[.val (.int p0), .val (.int p1), .val (.int p2), .val (.int p3), .val (.int (0 : Int32)), .val (.int (own_b (¬ ((p0 &&& (2 : Int32)) = (0 : Int32))))), .val (.int (3 : Int32)), .unset, .unset, .unset, .unset, .unset] [(.int (3 : Int32)), (.int ((p2 &&& (2147483647 : Int32)) % (3 : Int32)))])) rfl (by rw [hml]; rfl) (argsL := [(.int ((p2 &&& (2147483647 : Int32)) % (3 : Int32))), (.int (3 : Int32))]) (rest := []) (lenOf pd6 rfl) rfl (by show 2 * 0 + _ ≤ _; exact Nat.le_of_eq rfl) (hb hby at_39) (fun _ _ => ⟨rfl, e0, (by decide : 0 + 0 ≤ _), (by decide : 0 + 0 ≤ _)⟩)
      dsimp only [Pt.U, Pt.locs, Pt.cells, Pt.slots] at X109 l109 y109 z109 st109 hQ109
      subst l109 y109 z109
      obtain ⟨rfl, N109q, e109⟩ := hQ109
      have N109 := Fr.app N0 N109q
      have pre110 : ∀ tZ, Steps p.tables e below (T109.setTop (mkF m 44 #[.val (.int p0), .val (.int p1), .val (.int p2), .val (.int p3), .val (.int (0 : Int32)), .val (.int (own_b (¬ ((p0 &&& (2 : Int32)) = (0 : Int32))))), .val (.int (3 : Int32)), .val (.int (if (3 : Int32) < ((p2 &&& (2147483647 : Int32)) % (3 : Int32)) then (3 : Int32) else ((p2 &&& (2147483647 : Int32)) % (3 : Int32)))), .unset, .unset, .unset, .unset] [])) tZ → Steps p.tables e below (s₁.setTop (entryFrame m #[(.int p0), (.int p1), (.int p2), (.int p3)] maxLocals)) tZ := fun tZ kZ => pre6 tZ (by
        show Steps p.tables e below (s₁.setTop (mkF m 31 #[.val (.int p0), .val (.int p1), .val (.int p2), .val (.int p3), .val (.int (0 : Int32)), .val (.int (own_b (¬ ((p0 &&& (2 : Int32)) = (0 : Int32))))), .val (.int (3 : Int32)), .unset, .unset, .unset, .unset, .unset] [])) _
        refine XS.iloadN X0.here hx rfl (hb hby at_31) rfl  ?_
        show Steps p.tables e below (s₁.setTop (mkF m 32 #[.val (.int p0), .val (.int p1), .val (.int p2), .val (.int p3), .val (.int (0 : Int32)), .val (.int (own_b (¬ ((p0 &&& (2 : Int32)) = (0 : Int32))))), .val (.int (3 : Int32)), .unset, .unset, .unset, .unset, .unset] [(.int p2)])) _
        refine X0.ldcInt hx hown (mvT hZ (ow hw 0 rfl)) (g := (mkF m 32 #[.val (.int p0), .val (.int p1), .val (.int p2), .val (.int p3), .val (.int (0 : Int32)), .val (.int (own_b (¬ ((p0 &&& (2 : Int32)) = (0 : Int32))))), .val (.int (3 : Int32)), .unset, .unset, .unset, .unset, .unset] [(.int p2)])) rfl (hb hby at_32) _ ?_
        show Steps p.tables e below (s₁.setTop (mkF m 34 #[.val (.int p0), .val (.int p1), .val (.int p2), .val (.int p3), .val (.int (0 : Int32)), .val (.int (own_b (¬ ((p0 &&& (2 : Int32)) = (0 : Int32))))), .val (.int (3 : Int32)), .unset, .unset, .unset, .unset, .unset] [(.int (2147483647 : Int32)), (.int p2)])) _
        refine XS.iand X0.here hx rfl (hb hby at_34) rfl ?_
        show Steps p.tables e below (s₁.setTop (mkF m 35 #[.val (.int p0), .val (.int p1), .val (.int p2), .val (.int p3), .val (.int (0 : Int32)), .val (.int (own_b (¬ ((p0 &&& (2 : Int32)) = (0 : Int32))))), .val (.int (3 : Int32)), .unset, .unset, .unset, .unset, .unset] [(.int (p2 &&& (2147483647 : Int32)))])) _
        refine XS.iconst X0.here hx rfl (hb hby at_35) ?_
        show Steps p.tables e below (s₁.setTop (mkF m 36 #[.val (.int p0), .val (.int p1), .val (.int p2), .val (.int p3), .val (.int (0 : Int32)), .val (.int (own_b (¬ ((p0 &&& (2 : Int32)) = (0 : Int32))))), .val (.int (3 : Int32)), .unset, .unset, .unset, .unset, .unset] [(.int (3 : Int32)), (.int (p2 &&& (2147483647 : Int32)))])) _
        refine iremM X0 hx rfl (hb hby at_36) rfl (by decide) ?_
        show Steps p.tables e below (s₁.setTop (mkF m 37 #[.val (.int p0), .val (.int p1), .val (.int p2), .val (.int p3), .val (.int (0 : Int32)), .val (.int (own_b (¬ ((p0 &&& (2 : Int32)) = (0 : Int32))))), .val (.int (3 : Int32)), .unset, .unset, .unset, .unset, .unset] [(.int ((p2 &&& (2147483647 : Int32)) % (3 : Int32)))])) _
        refine XS.iload X0.here hx rfl (hb hby at_37) rfl  ?_
        show Steps p.tables e below (s₁.setTop (mkF m 39 #[.val (.int p0), .val (.int p1), .val (.int p2), .val (.int p3), .val (.int (0 : Int32)), .val (.int (own_b (¬ ((p0 &&& (2 : Int32)) = (0 : Int32))))), .val (.int (3 : Int32)), .unset, .unset, .unset, .unset, .unset] [(.int (3 : Int32)), (.int ((p2 &&& (2147483647 : Int32)) % (3 : Int32)))])) _
        refine st109 _ ?_
        show Steps p.tables e below (T109.setTop (mkF m 42 #[.val (.int p0), .val (.int p1), .val (.int p2), .val (.int p3), .val (.int (0 : Int32)), .val (.int (own_b (¬ ((p0 &&& (2 : Int32)) = (0 : Int32))))), .val (.int (3 : Int32)), .unset, .unset, .unset, .unset, .unset] [(.int (if (3 : Int32) < ((p2 &&& (2147483647 : Int32)) % (3 : Int32)) then (3 : Int32) else ((p2 &&& (2147483647 : Int32)) % (3 : Int32))))])) _
        refine XS.istore X109.here hx rfl (hb hby at_42) rfl (l' := #[.val (.int p0), .val (.int p1), .val (.int p2), .val (.int p3), .val (.int (0 : Int32)), .val (.int (own_b (¬ ((p0 &&& (2 : Int32)) = (0 : Int32))))), .val (.int (3 : Int32)), .val (.int (if (3 : Int32) < ((p2 &&& (2147483647 : Int32)) % (3 : Int32)) then (3 : Int32) else ((p2 &&& (2147483647 : Int32)) % (3 : Int32)))), .unset, .unset, .unset, .unset]) rfl ?_
        exact kZ)
      obtain ⟨mv, hmv⟩ : ∃ z, z = (if (3 : Int32) < ((p2 &&& (2147483647 : Int32)) % (3 : Int32)) then (3 : Int32) else ((p2 &&& (2147483647 : Int32)) % (3 : Int32))) := ⟨_, rfl⟩
      rw [← hmv] at pre110
      have hm3 := own_min hmv (own_rem p2) (by decide)
      have hm4 := own_c3 hm3.1 hm3.2.1
      obtain ⟨_, _, ⟨T111, L111, k111, n111⟩, -, X111, ⟨Lc111, hQ111, l111, y111, z111⟩, st111⟩ := Jvm.LawKit.callS X109 hx (y := (⟨"java/lang/Math", "min", "(II)I"⟩ : MethodName)) hown (mvT hZ (ow hw 1 rfl)) (mvT hZ (ow hw 2 rfl)) (mvT hZ (ow hw 3 rfl)) (mvT hZ (ow hw 4 rfl)) (by decide) (backOf (W := 0) (rm1 l Z a0 hw [] ((p3 &&& (2147483647 : Int32)) % (3 : Int32)) ((3 : Int32) - mv) h0 n0 Z0 ) hZ (ow hw 4 rfl) (ow hw 3 rfl) (by decide) (by decide)) (g := (mkF m 55 #[.val (.int p0), .val (.int p1), .val (.int p2), .val (.int p3), .val (.int (0 : Int32)), .val (.int (own_b (¬ ((p0 &&& (2 : Int32)) = (0 : Int32))))), .val (.int (3 : Int32)), .val (.int mv), .unset, .unset, .unset, .unset] [(.int ((3 : Int32) - mv)), (.int ((p3 &&& (2147483647 : Int32)) % (3 : Int32)))])) rfl (by rw [hml]; rfl) (argsL := [(.int ((p3 &&& (2147483647 : Int32)) % (3 : Int32))), (.int ((3 : Int32) - mv))]) (rest := []) (lenOf pd6 rfl) rfl (by show 2 * 0 + _ ≤ _; exact Nat.le_of_eq rfl) (hb hby at_55) (fun _ _ => ⟨rfl, e109, (by decide : 0 + 0 ≤ _), (by decide : 0 + 0 ≤ _)⟩)
      dsimp only [Pt.U, Pt.locs, Pt.cells, Pt.slots] at X111 l111 y111 z111 st111 hQ111
      subst l111 y111 z111
      obtain ⟨rfl, N111q, e111⟩ := hQ111
      have N111 := Fr.app N109 N111q
      have pre112 : ∀ tZ, Steps p.tables e below (T111.setTop (mkF m 60 #[.val (.int p0), .val (.int p1), .val (.int p2), .val (.int p3), .val (.int (0 : Int32)), .val (.int (own_b (¬ ((p0 &&& (2 : Int32)) = (0 : Int32))))), .val (.int (3 : Int32)), .val (.int mv), .val (.int (if ((3 : Int32) - mv) < ((p3 &&& (2147483647 : Int32)) % (3 : Int32)) then ((3 : Int32) - mv) else ((p3 &&& (2147483647 : Int32)) % (3 : Int32)))), .unset, .unset, .unset] [])) tZ → Steps p.tables e below (s₁.setTop (entryFrame m #[(.int p0), (.int p1), (.int p2), (.int p3)] maxLocals)) tZ := fun tZ kZ => pre110 tZ (by
        show Steps p.tables e below (T109.setTop (mkF m 44 #[.val (.int p0), .val (.int p1), .val (.int p2), .val (.int p3), .val (.int (0 : Int32)), .val (.int (own_b (¬ ((p0 &&& (2 : Int32)) = (0 : Int32))))), .val (.int (3 : Int32)), .val (.int mv), .unset, .unset, .unset, .unset] [])) _
        refine XS.iloadN X109.here hx rfl (hb hby at_44) rfl  ?_
        show Steps p.tables e below (T109.setTop (mkF m 45 #[.val (.int p0), .val (.int p1), .val (.int p2), .val (.int p3), .val (.int (0 : Int32)), .val (.int (own_b (¬ ((p0 &&& (2 : Int32)) = (0 : Int32))))), .val (.int (3 : Int32)), .val (.int mv), .unset, .unset, .unset, .unset] [(.int p3)])) _
        refine X109.ldcInt hx hown (mvT hZ (ow hw 0 rfl)) (g := (mkF m 45 #[.val (.int p0), .val (.int p1), .val (.int p2), .val (.int p3), .val (.int (0 : Int32)), .val (.int (own_b (¬ ((p0 &&& (2 : Int32)) = (0 : Int32))))), .val (.int (3 : Int32)), .val (.int mv), .unset, .unset, .unset, .unset] [(.int p3)])) rfl (hb hby at_45) _ ?_
        show Steps p.tables e below (T109.setTop (mkF m 47 #[.val (.int p0), .val (.int p1), .val (.int p2), .val (.int p3), .val (.int (0 : Int32)), .val (.int (own_b (¬ ((p0 &&& (2 : Int32)) = (0 : Int32))))), .val (.int (3 : Int32)), .val (.int mv), .unset, .unset, .unset, .unset] [(.int (2147483647 : Int32)), (.int p3)])) _
        refine XS.iand X109.here hx rfl (hb hby at_47) rfl ?_
        show Steps p.tables e below (T109.setTop (mkF m 48 #[.val (.int p0), .val (.int p1), .val (.int p2), .val (.int p3), .val (.int (0 : Int32)), .val (.int (own_b (¬ ((p0 &&& (2 : Int32)) = (0 : Int32))))), .val (.int (3 : Int32)), .val (.int mv), .unset, .unset, .unset, .unset] [(.int (p3 &&& (2147483647 : Int32)))])) _
        refine XS.iconst X109.here hx rfl (hb hby at_48) ?_
        show Steps p.tables e below (T109.setTop (mkF m 49 #[.val (.int p0), .val (.int p1), .val (.int p2), .val (.int p3), .val (.int (0 : Int32)), .val (.int (own_b (¬ ((p0 &&& (2 : Int32)) = (0 : Int32))))), .val (.int (3 : Int32)), .val (.int mv), .unset, .unset, .unset, .unset] [(.int (3 : Int32)), (.int (p3 &&& (2147483647 : Int32)))])) _
        refine iremM X109 hx rfl (hb hby at_49) rfl (by decide) ?_
        show Steps p.tables e below (T109.setTop (mkF m 50 #[.val (.int p0), .val (.int p1), .val (.int p2), .val (.int p3), .val (.int (0 : Int32)), .val (.int (own_b (¬ ((p0 &&& (2 : Int32)) = (0 : Int32))))), .val (.int (3 : Int32)), .val (.int mv), .unset, .unset, .unset, .unset] [(.int ((p3 &&& (2147483647 : Int32)) % (3 : Int32)))])) _
        refine XS.iload X109.here hx rfl (hb hby at_50) rfl  ?_
        show Steps p.tables e below (T109.setTop (mkF m 52 #[.val (.int p0), .val (.int p1), .val (.int p2), .val (.int p3), .val (.int (0 : Int32)), .val (.int (own_b (¬ ((p0 &&& (2 : Int32)) = (0 : Int32))))), .val (.int (3 : Int32)), .val (.int mv), .unset, .unset, .unset, .unset] [(.int (3 : Int32)), (.int ((p3 &&& (2147483647 : Int32)) % (3 : Int32)))])) _
        refine XS.iload X109.here hx rfl (hb hby at_52) rfl  ?_
        show Steps p.tables e below (T109.setTop (mkF m 54 #[.val (.int p0), .val (.int p1), .val (.int p2), .val (.int p3), .val (.int (0 : Int32)), .val (.int (own_b (¬ ((p0 &&& (2 : Int32)) = (0 : Int32))))), .val (.int (3 : Int32)), .val (.int mv), .unset, .unset, .unset, .unset] [(.int mv), (.int (3 : Int32)), (.int ((p3 &&& (2147483647 : Int32)) % (3 : Int32)))])) _
        refine XS.isub X109.here hx rfl (hb hby at_54) rfl ?_
        show Steps p.tables e below (T109.setTop (mkF m 55 #[.val (.int p0), .val (.int p1), .val (.int p2), .val (.int p3), .val (.int (0 : Int32)), .val (.int (own_b (¬ ((p0 &&& (2 : Int32)) = (0 : Int32))))), .val (.int (3 : Int32)), .val (.int mv), .unset, .unset, .unset, .unset] [(.int ((3 : Int32) - mv)), (.int ((p3 &&& (2147483647 : Int32)) % (3 : Int32)))])) _
        refine st111 _ ?_
        show Steps p.tables e below (T111.setTop (mkF m 58 #[.val (.int p0), .val (.int p1), .val (.int p2), .val (.int p3), .val (.int (0 : Int32)), .val (.int (own_b (¬ ((p0 &&& (2 : Int32)) = (0 : Int32))))), .val (.int (3 : Int32)), .val (.int mv), .unset, .unset, .unset, .unset] [(.int (if ((3 : Int32) - mv) < ((p3 &&& (2147483647 : Int32)) % (3 : Int32)) then ((3 : Int32) - mv) else ((p3 &&& (2147483647 : Int32)) % (3 : Int32))))])) _
        refine XS.istore X111.here hx rfl (hb hby at_58) rfl (l' := #[.val (.int p0), .val (.int p1), .val (.int p2), .val (.int p3), .val (.int (0 : Int32)), .val (.int (own_b (¬ ((p0 &&& (2 : Int32)) = (0 : Int32))))), .val (.int (3 : Int32)), .val (.int mv), .val (.int (if ((3 : Int32) - mv) < ((p3 &&& (2147483647 : Int32)) % (3 : Int32)) then ((3 : Int32) - mv) else ((p3 &&& (2147483647 : Int32)) % (3 : Int32)))), .unset, .unset, .unset]) rfl ?_
        exact kZ)
      obtain ⟨nv, hnv⟩ : ∃ z, z = (if ((3 : Int32) - mv) < ((p3 &&& (2147483647 : Int32)) % (3 : Int32)) then ((3 : Int32) - mv) else ((p3 &&& (2147483647 : Int32)) % (3 : Int32))) := ⟨_, rfl⟩
      rw [← hnv] at pre112
      have hn3 := own_min hnv (own_rem p3) (own_nn hm4 hm3.2.2 (by decide))
      have hn4 := own_c3 hn3.1 hn3.2.1
      obtain ⟨T113, h113, X113, e113, E113, A113, D113, -, st113⟩ := newO X111 hx hZ hown (ow hw 5 rfl) (ow hw 6 rfl) (ow hw 7 rfl) e111 (g := (mkF m 60 #[.val (.int p0), .val (.int p1), .val (.int p2), .val (.int p3), .val (.int (0 : Int32)), .val (.int (own_b (¬ ((p0 &&& (2 : Int32)) = (0 : Int32))))), .val (.int (3 : Int32)), .val (.int mv), .val (.int nv), .unset, .unset, .unset] [])) rfl (hb hby at_60) (by decide) (by decide)
      obtain ⟨b113, g113⟩ : ∃ z, z = h0.size := ⟨_, rfl⟩
      rw [← g113] at A113 D113 st113
      have gn_b113 : n0 ≤ b113 := Nat.le_trans Z0 (Nat.le_of_eq g113.symm)
      have Z114 : n0 ≤ h113.size := Nat.le_trans Z0 E113.1
      have F__tasks_b113 : Fld Z h113 b113 oR "_tasks" "[Lcom/example/portunus/portunus/policy/WaitingTask;" .null := D113 (Or.inl (ow hw 20 rfl)) (ty := (.array (.object oW))) (by decide)
      have F__mayBeLostAfterUs_b113 : Fld Z h113 b113 oR "_mayBeLostAfterUs" "[D" .null := D113 (Or.inl (ow hw 22 rfl)) (ty := (.array .double)) (by decide)
      have F__size_b113 : Fld Z h113 b113 oR "_size" "I" (.int (0 : Int32)) := D113 (Or.inl (ow hw 29 rfl)) (ty := .int) (by decide)
      have F__first_b113 : Fld Z h113 b113 oR "_first" "I" (.int (0 : Int32)) := D113 (Or.inl (ow hw 35 rfl)) (ty := .int) (by decide)
      have F__lostSlots_b113 : Fld Z h113 b113 oR "_lostSlots" "I" (.int (0 : Int32)) := D113 (Or.inl (ow hw 44 rfl)) (ty := .int) (by decide)
      obtain ⟨_, _, ⟨T115, L115, k115, n115⟩, -, X115, ⟨Lc115, hQ115, l115, y115, z115⟩, st115⟩ := X113.specialBack hx (y := (⟨oR, "<init>", "(Z)V"⟩ : MethodName)) rfl hown (mvT hZ (ow hw 8 rfl)) (mvT hZ (ow hw 9 rfl)) (mvT hZ (ow hw 10 rfl)) (by decide) (backOf (W := 1) (rm2n l Z a0 hw [] b113 .null .null h113 n0 Z114 A113 F__tasks_b113 F__mayBeLostAfterUs_b113 F__size_b113 F__lostSlots_b113 F__first_b113 gn_b113) hZ (ow hw 10 rfl) (ow hw 7 rfl) (by decide) (by decide)) (g := (mkF m 66 #[.val (.int p0), .val (.int p1), .val (.int p2), .val (.int p3), .val (.int (0 : Int32)), .val (.int (own_b (¬ ((p0 &&& (2 : Int32)) = (0 : Int32))))), .val (.int (3 : Int32)), .val (.int mv), .val (.int nv), .unset, .unset, .unset] [(.int (0 : Int32)), (.ref b113), (.ref b113)])) rfl (by rw [hml]; rfl) (Steps.refl _) (a := b113) (argsL := [(.int (0 : Int32))]) (rest := [(.ref b113)]) (lenOf pd7 rfl) rfl (by show 2 * 0 + _ ≤ _; exact Nat.le_of_eq rfl) (hb hby at_66) (fun _ _ => ⟨rfl, e113, (by decide : 1 + 1 ≤ _), (by decide : 5 + 8 ≤ _)⟩)
      dsimp only [Pt.U, Pt.locs, Pt.cells, Pt.slots] at X115 l115 y115 z115 st115 hQ115
      subst l115 y115 z115
      obtain ⟨tk_116, kt_117, rfl, N115q, K115, u115_0, u115_1, f115_0, f115_1, f115_2, f115_3, f115_4, f115_5, f115_6⟩ := hQ115
      have N115 := Fr.app N111 N115q
      have Z118 : n0 ≤ T115.heap.size := Nat.le_trans Z114 K115.1
      have ne119 : b113 ≠ tk_116 := Nat.ne_of_lt (Nat.lt_of_lt_of_le A113.lt u115_1)
      obtain ⟨cq120, kq120, q120a, q120b, q120c⟩ := isOf hZ rfl f115_0
      obtain ⟨_, _, ⟨T120, L120, k120, n120⟩, -, X120, ⟨Lc120, hQ120, l120, y120, z120⟩, st120⟩ := X115.virtualBack hx (y := (⟨oR, "addLast", "(Lcom/example/portunus/portunus/policy/WaitingTask;D)V"⟩ : MethodName)) (z := (⟨oR, "addLast", "(Lcom/example/portunus/portunus/policy/WaitingTask;D)V"⟩ : MethodName)) hown (mvT hZ (ow hw 23 rfl)) (mvT hZ (ow hw 24 rfl)) (notFace_of_selects (args := #[]) (mvT hZ (ow hw 26 rfl))) (mvT hZ (ow hw 26 rfl)) (mvT hZ (ow hw 25 rfl)) (by decide) (backOf (W := 0) (rm5n l Z a0 hw [] b113 Jvm.FP.dconst1 tk_116 (0 : Int32) (0 : Int32) (0 : Int32) kt_117 T115.heap n0 Z118 f115_0 f115_1 f115_2 f115_3 f115_4 f115_5 f115_6 gn_b113 u115_0 ne119 (by first | assumption | decide | omega)) hZ (ow hw 27 rfl) (ow hw 7 rfl) (by decide) (by decide)) q120a q120c (g := (mkF m 81 #[.val (.int p0), .val (.int p1), .val (.int p2), .val (.int p3), .val (.int (0 : Int32)), .val (.int (own_b (¬ ((p0 &&& (2 : Int32)) = (0 : Int32))))), .val (.int (3 : Int32)), .val (.int mv), .val (.int nv), .val (.ref b113), .unset, .unset] [(.double Jvm.FP.dconst1), .null, (.ref b113)])) rfl (by rw [hml]; rfl) (Steps.refl _) (argsL := [.null, (.double Jvm.FP.dconst1)]) (rest := []) (lenOf pd10 rfl) rfl (by show 2 * 0 + _ ≤ _; exact Nat.le_of_eq rfl) (hb hby at_81) (fun _ _ => ⟨rfl, rfl, (by decide : 2 + 0 ≤ _), (by decide : 13 + 0 ≤ _)⟩)
      dsimp only [Pt.U, Pt.locs, Pt.cells, Pt.slots] at X120 l120 y120 z120 st120 hQ120
      subst l120 y120 z120
      obtain ⟨rfl, N120q, K120, f120_0, f120_1, f120_2, f120_3, f120_4, f120_5, f120_6⟩ := hQ120
      have N120 := Fr.app N115 N120q
      have Z121 : n0 ≤ T120.heap.size := Nat.le_trans Z118 K120.1
      obtain ⟨cq122, kq122, q122a, q122b, q122c⟩ := isOf hZ rfl f120_0
      obtain ⟨_, _, ⟨T122, L122, k122, n122⟩, -, X122, ⟨Lc122, hQ122, l122, y122, z122⟩, st122⟩ := X120.virtualBack hx (y := (⟨oR, "addLast", "(Lcom/example/portunus/portunus/policy/WaitingTask;D)V"⟩ : MethodName)) (z := (⟨oR, "addLast", "(Lcom/example/portunus/portunus/policy/WaitingTask;D)V"⟩ : MethodName)) hown (mvT hZ (ow hw 23 rfl)) (mvT hZ (ow hw 24 rfl)) (notFace_of_selects (args := #[]) (mvT hZ (ow hw 26 rfl))) (mvT hZ (ow hw 26 rfl)) (mvT hZ (ow hw 25 rfl)) (by decide) (backOf (W := 0) (rm5n l Z a0 hw [] b113 (4611686018427387904 : UInt64) tk_116 ((0 : Int32) + (1 : Int32)) (0 : Int32) (0 : Int32) kt_117 T120.heap n0 Z121 f120_0 f120_1 f120_2 f120_3 f120_4 f120_5 f120_6 gn_b113 u115_0 ne119 (by first | assumption | decide | omega)) hZ (ow hw 27 rfl) (ow hw 7 rfl) (by decide) (by decide)) q122a q122c (g := (mkF m 96 #[.val (.int p0), .val (.int p1), .val (.int p2), .val (.int p3), .val (.int (0 : Int32)), .val (.int (own_b (¬ ((p0 &&& (2 : Int32)) = (0 : Int32))))), .val (.int (3 : Int32)), .val (.int mv), .val (.int nv), .val (.ref b113), .unset, .unset] [(.double (4611686018427387904 : UInt64)), .null, (.ref b113)])) rfl (by rw [hml]; rfl) (Steps.refl _) (argsL := [.null, (.double (4611686018427387904 : UInt64))]) (rest := []) (lenOf pd10 rfl) rfl (by show 2 * 0 + _ ≤ _; exact Nat.le_of_eq rfl) (hb hby at_96) (fun _ _ => ⟨rfl, rfl, (by decide : 2 + 0 ≤ _), (by decide : 13 + 0 ≤ _)⟩)
      dsimp only [Pt.U, Pt.locs, Pt.cells, Pt.slots] at X122 l122 y122 z122 st122 hQ122
      subst l122 y122 z122
      obtain ⟨rfl, N122q, K122, f122_0, f122_1, f122_2, f122_3, f122_4, f122_5, f122_6⟩ := hQ122
      have N122 := Fr.app N120 N122q
      have Z123 : n0 ≤ T122.heap.size := Nat.le_trans Z121 K122.1
      obtain ⟨cq124, kq124, q124a, q124b, q124c⟩ := isOf hZ rfl f122_0
      obtain ⟨_, _, ⟨T124, L124, k124, n124⟩, -, X124, ⟨Lc124, hQ124, l124, y124, z124⟩, st124⟩ := X122.virtualBack hx (y := (⟨oR, "addLast", "(Lcom/example/portunus/portunus/policy/WaitingTask;D)V"⟩ : MethodName)) (z := (⟨oR, "addLast", "(Lcom/example/portunus/portunus/policy/WaitingTask;D)V"⟩ : MethodName)) hown (mvT hZ (ow hw 23 rfl)) (mvT hZ (ow hw 24 rfl)) (notFace_of_selects (args := #[]) (mvT hZ (ow hw 26 rfl))) (mvT hZ (ow hw 26 rfl)) (mvT hZ (ow hw 25 rfl)) (by decide) (backOf (W := 0) (rm5n l Z a0 hw [] b113 (4613937818241073152 : UInt64) tk_116 (((0 : Int32) + (1 : Int32)) + (1 : Int32)) (0 : Int32) (0 : Int32) kt_117 T122.heap n0 Z123 f122_0 f122_1 f122_2 f122_3 f122_4 f122_5 f122_6 gn_b113 u115_0 ne119 (by first | assumption | decide | omega)) hZ (ow hw 27 rfl) (ow hw 7 rfl) (by decide) (by decide)) q124a q124c (g := (mkF m 111 #[.val (.int p0), .val (.int p1), .val (.int p2), .val (.int p3), .val (.int (0 : Int32)), .val (.int (own_b (¬ ((p0 &&& (2 : Int32)) = (0 : Int32))))), .val (.int (3 : Int32)), .val (.int mv), .val (.int nv), .val (.ref b113), .unset, .unset] [(.double (4613937818241073152 : UInt64)), .null, (.ref b113)])) rfl (by rw [hml]; rfl) (Steps.refl _) (argsL := [.null, (.double (4613937818241073152 : UInt64))]) (rest := []) (lenOf pd10 rfl) rfl (by show 2 * 0 + _ ≤ _; exact Nat.le_of_eq rfl) (hb hby at_111) (fun _ _ => ⟨rfl, rfl, (by decide : 2 + 0 ≤ _), (by decide : 13 + 0 ≤ _)⟩)
      dsimp only [Pt.U, Pt.locs, Pt.cells, Pt.slots] at X124 l124 y124 z124 st124 hQ124
      subst l124 y124 z124
      obtain ⟨rfl, N124q, K124, f124_0, f124_1, f124_2, f124_3, f124_4, f124_5, f124_6⟩ := hQ124
      have N124 := Fr.app N122 N124q
      have Z125 : n0 ≤ T124.heap.size := Nat.le_trans Z123 K124.1
      obtain ⟨cq126, kq126, q126a, q126b, q126c⟩ := isOf hZ rfl f124_0
      obtain ⟨_, _, ⟨T126, L126, k126, n126⟩, -, X126, ⟨Lc126, hQ126, l126, y126, z126⟩, st126⟩ := X124.virtualBack hx (y := (⟨oR, "hasOther", "()Z"⟩ : MethodName)) (z := (⟨oR, "hasOther", "()Z"⟩ : MethodName)) hown (mvT hZ (ow hw 38 rfl)) (mvT hZ (ow hw 39 rfl)) (notFace_of_selects (args := #[]) (mvT hZ (ow hw 41 rfl))) (mvT hZ (ow hw 41 rfl)) (mvT hZ (ow hw 40 rfl)) (by decide) (backOf (W := 0) (rm7 l Z a0 hw [] b113 ((((0 : Int32) + (1 : Int32)) + (1 : Int32)) + (1 : Int32)) (0 : Int32) T124.heap n0 Z125 f124_3 f124_4) hZ (ow hw 42 rfl) (ow hw 7 rfl) (by decide) (by decide)) q126a q126c (g := (mkF m 116 #[.val (.int p0), .val (.int p1), .val (.int p2), .val (.int p3), .val (.int (0 : Int32)), .val (.int (own_b (¬ ((p0 &&& (2 : Int32)) = (0 : Int32))))), .val (.int (3 : Int32)), .val (.int mv), .val (.int nv), .val (.ref b113), .unset, .unset] [(.ref b113)])) rfl (by rw [hml]; rfl) (Steps.refl _) (argsL := []) (rest := []) (lenOf pd8 rfl) rfl (by show 2 * 0 + _ ≤ _; exact Nat.le_of_eq rfl) (hb hby at_116) (fun _ _ => ⟨rfl, rfl, (by decide : 2 + 0 ≤ _), (by decide : 13 + 0 ≤ _)⟩)
      dsimp only [Pt.U, Pt.locs, Pt.cells, Pt.slots] at X126 l126 y126 z126 st126 hQ126
      subst l126 y126 z126
      obtain ⟨rfl, N126q, e126⟩ := hQ126
      have N126 := Fr.app N124 N126q
      have pre127 : ∀ tZ, Steps p.tables e below (T126.setTop (mkF m 123 #[.val (.int p0), .val (.int p1), .val (.int p2), .val (.int p3), .val (.int (0 : Int32)), .val (.int (own_b (¬ ((p0 &&& (2 : Int32)) = (0 : Int32))))), .val (.int (3 : Int32)), .val (.int mv), .val (.int nv), .val (.ref b113), .val (.int (own_b ((0 : Int32) < ((((0 : Int32) + (1 : Int32)) + (1 : Int32)) + (1 : Int32))))), .unset] [(.int (own_b (¬ ((p0 &&& (2 : Int32)) = (0 : Int32)))))])) tZ → Steps p.tables e below (s₁.setTop (entryFrame m #[(.int p0), (.int p1), (.int p2), (.int p3)] maxLocals)) tZ := fun tZ kZ => pre112 tZ (by
        show Steps p.tables e below (T111.setTop (mkF m 60 #[.val (.int p0), .val (.int p1), .val (.int p2), .val (.int p3), .val (.int (0 : Int32)), .val (.int (own_b (¬ ((p0 &&& (2 : Int32)) = (0 : Int32))))), .val (.int (3 : Int32)), .val (.int mv), .val (.int nv), .unset, .unset, .unset] [])) _
        refine st113 _ ?_
        show Steps p.tables e below (T113.setTop (mkF m 63 #[.val (.int p0), .val (.int p1), .val (.int p2), .val (.int p3), .val (.int (0 : Int32)), .val (.int (own_b (¬ ((p0 &&& (2 : Int32)) = (0 : Int32))))), .val (.int (3 : Int32)), .val (.int mv), .val (.int nv), .unset, .unset, .unset] [(.ref b113)])) _
        refine XS.dup X113.here hx rfl (hb hby at_63) rfl rfl ?_
        show Steps p.tables e below (T113.setTop (mkF m 64 #[.val (.int p0), .val (.int p1), .val (.int p2), .val (.int p3), .val (.int (0 : Int32)), .val (.int (own_b (¬ ((p0 &&& (2 : Int32)) = (0 : Int32))))), .val (.int (3 : Int32)), .val (.int mv), .val (.int nv), .unset, .unset, .unset] [(.ref b113), (.ref b113)])) _
        refine XS.iload X113.here hx rfl (hb hby at_64) rfl  ?_
        show Steps p.tables e below (T113.setTop (mkF m 66 #[.val (.int p0), .val (.int p1), .val (.int p2), .val (.int p3), .val (.int (0 : Int32)), .val (.int (own_b (¬ ((p0 &&& (2 : Int32)) = (0 : Int32))))), .val (.int (3 : Int32)), .val (.int mv), .val (.int nv), .unset, .unset, .unset] [(.int (0 : Int32)), (.ref b113), (.ref b113)])) _
        refine st115.trans ?_
        show Steps p.tables e below (T115.setTop (mkF m 69 #[.val (.int p0), .val (.int p1), .val (.int p2), .val (.int p3), .val (.int (0 : Int32)), .val (.int (own_b (¬ ((p0 &&& (2 : Int32)) = (0 : Int32))))), .val (.int (3 : Int32)), .val (.int mv), .val (.int nv), .unset, .unset, .unset] [(.ref b113)])) _
        refine XS.astore X115.here hx rfl (hb hby at_69) rfl rfl (l' := #[.val (.int p0), .val (.int p1), .val (.int p2), .val (.int p3), .val (.int (0 : Int32)), .val (.int (own_b (¬ ((p0 &&& (2 : Int32)) = (0 : Int32))))), .val (.int (3 : Int32)), .val (.int mv), .val (.int nv), .val (.ref b113), .unset, .unset]) rfl ?_
        show Steps p.tables e below (T115.setTop (mkF m 71 #[.val (.int p0), .val (.int p1), .val (.int p2), .val (.int p3), .val (.int (0 : Int32)), .val (.int (own_b (¬ ((p0 &&& (2 : Int32)) = (0 : Int32))))), .val (.int (3 : Int32)), .val (.int mv), .val (.int nv), .val (.ref b113), .unset, .unset] [])) _
        refine XS.iload X115.here hx rfl (hb hby at_71) rfl  ?_
        show Steps p.tables e below (T115.setTop (mkF m 73 #[.val (.int p0), .val (.int p1), .val (.int p2), .val (.int p3), .val (.int (0 : Int32)), .val (.int (own_b (¬ ((p0 &&& (2 : Int32)) = (0 : Int32))))), .val (.int (3 : Int32)), .val (.int mv), .val (.int nv), .val (.ref b113), .unset, .unset] [(.int (3 : Int32))])) _
        refine XS.iconst X115.here hx rfl (hb hby at_73) ?_
        show Steps p.tables e below (T115.setTop (mkF m 74 #[.val (.int p0), .val (.int p1), .val (.int p2), .val (.int p3), .val (.int (0 : Int32)), .val (.int (own_b (¬ ((p0 &&& (2 : Int32)) = (0 : Int32))))), .val (.int (3 : Int32)), .val (.int mv), .val (.int nv), .val (.ref b113), .unset, .unset] [(.int (1 : Int32)), (.int (3 : Int32))])) _
        refine XS.icmpNo X115.here hx rfl (hb hby at_74) rfl (flt (by decide)).1 ?_
        show Steps p.tables e below (T115.setTop (mkF m 77 #[.val (.int p0), .val (.int p1), .val (.int p2), .val (.int p3), .val (.int (0 : Int32)), .val (.int (own_b (¬ ((p0 &&& (2 : Int32)) = (0 : Int32))))), .val (.int (3 : Int32)), .val (.int mv), .val (.int nv), .val (.ref b113), .unset, .unset] [])) _
        refine XS.aload X115.here hx rfl (hb hby at_77) rfl rfl ?_
        show Steps p.tables e below (T115.setTop (mkF m 79 #[.val (.int p0), .val (.int p1), .val (.int p2), .val (.int p3), .val (.int (0 : Int32)), .val (.int (own_b (¬ ((p0 &&& (2 : Int32)) = (0 : Int32))))), .val (.int (3 : Int32)), .val (.int mv), .val (.int nv), .val (.ref b113), .unset, .unset] [(.ref b113)])) _
        refine XS.aconstNull X115.here hx rfl (hb hby at_79) ?_
        show Steps p.tables e below (T115.setTop (mkF m 80 #[.val (.int p0), .val (.int p1), .val (.int p2), .val (.int p3), .val (.int (0 : Int32)), .val (.int (own_b (¬ ((p0 &&& (2 : Int32)) = (0 : Int32))))), .val (.int (3 : Int32)), .val (.int mv), .val (.int nv), .val (.ref b113), .unset, .unset] [.null, (.ref b113)])) _
        refine XS.dconst1 X115.here hx rfl (v := Jvm.FP.dconst1) (hb hby at_80) rfl ?_
        show Steps p.tables e below (T115.setTop (mkF m 81 #[.val (.int p0), .val (.int p1), .val (.int p2), .val (.int p3), .val (.int (0 : Int32)), .val (.int (own_b (¬ ((p0 &&& (2 : Int32)) = (0 : Int32))))), .val (.int (3 : Int32)), .val (.int mv), .val (.int nv), .val (.ref b113), .unset, .unset] [(.double Jvm.FP.dconst1), .null, (.ref b113)])) _
        refine st120.trans ?_
        show Steps p.tables e below (T120.setTop (mkF m 84 #[.val (.int p0), .val (.int p1), .val (.int p2), .val (.int p3), .val (.int (0 : Int32)), .val (.int (own_b (¬ ((p0 &&& (2 : Int32)) = (0 : Int32))))), .val (.int (3 : Int32)), .val (.int mv), .val (.int nv), .val (.ref b113), .unset, .unset] [])) _
        refine XS.iload X120.here hx rfl (hb hby at_84) rfl  ?_
        show Steps p.tables e below (T120.setTop (mkF m 86 #[.val (.int p0), .val (.int p1), .val (.int p2), .val (.int p3), .val (.int (0 : Int32)), .val (.int (own_b (¬ ((p0 &&& (2 : Int32)) = (0 : Int32))))), .val (.int (3 : Int32)), .val (.int mv), .val (.int nv), .val (.ref b113), .unset, .unset] [(.int (3 : Int32))])) _
        refine XS.iconst X120.here hx rfl (hb hby at_86) ?_
        show Steps p.tables e below (T120.setTop (mkF m 87 #[.val (.int p0), .val (.int p1), .val (.int p2), .val (.int p3), .val (.int (0 : Int32)), .val (.int (own_b (¬ ((p0 &&& (2 : Int32)) = (0 : Int32))))), .val (.int (3 : Int32)), .val (.int mv), .val (.int nv), .val (.ref b113), .unset, .unset] [(.int (2 : Int32)), (.int (3 : Int32))])) _
        refine XS.icmpNo X120.here hx rfl (hb hby at_87) rfl (flt (by decide)).1 ?_
        show Steps p.tables e below (T120.setTop (mkF m 90 #[.val (.int p0), .val (.int p1), .val (.int p2), .val (.int p3), .val (.int (0 : Int32)), .val (.int (own_b (¬ ((p0 &&& (2 : Int32)) = (0 : Int32))))), .val (.int (3 : Int32)), .val (.int mv), .val (.int nv), .val (.ref b113), .unset, .unset] [])) _
        refine XS.aload X120.here hx rfl (hb hby at_90) rfl rfl ?_
        show Steps p.tables e below (T120.setTop (mkF m 92 #[.val (.int p0), .val (.int p1), .val (.int p2), .val (.int p3), .val (.int (0 : Int32)), .val (.int (own_b (¬ ((p0 &&& (2 : Int32)) = (0 : Int32))))), .val (.int (3 : Int32)), .val (.int mv), .val (.int nv), .val (.ref b113), .unset, .unset] [(.ref b113)])) _
        refine XS.aconstNull X120.here hx rfl (hb hby at_92) ?_
        show Steps p.tables e below (T120.setTop (mkF m 93 #[.val (.int p0), .val (.int p1), .val (.int p2), .val (.int p3), .val (.int (0 : Int32)), .val (.int (own_b (¬ ((p0 &&& (2 : Int32)) = (0 : Int32))))), .val (.int (3 : Int32)), .val (.int mv), .val (.int nv), .val (.ref b113), .unset, .unset] [.null, (.ref b113)])) _
        refine X120.ldc2DoubleC hx hown (mvT hZ (ow hw 36 rfl)) (g := (mkF m 93 #[.val (.int p0), .val (.int p1), .val (.int p2), .val (.int p3), .val (.int (0 : Int32)), .val (.int (own_b (¬ ((p0 &&& (2 : Int32)) = (0 : Int32))))), .val (.int (3 : Int32)), .val (.int mv), .val (.int nv), .val (.ref b113), .unset, .unset] [.null, (.ref b113)])) rfl (hb hby at_93) _ ?_
        show Steps p.tables e below (T120.setTop (mkF m 96 #[.val (.int p0), .val (.int p1), .val (.int p2), .val (.int p3), .val (.int (0 : Int32)), .val (.int (own_b (¬ ((p0 &&& (2 : Int32)) = (0 : Int32))))), .val (.int (3 : Int32)), .val (.int mv), .val (.int nv), .val (.ref b113), .unset, .unset] [(.double (4611686018427387904 : UInt64)), .null, (.ref b113)])) _
        refine st122.trans ?_
        show Steps p.tables e below (T122.setTop (mkF m 99 #[.val (.int p0), .val (.int p1), .val (.int p2), .val (.int p3), .val (.int (0 : Int32)), .val (.int (own_b (¬ ((p0 &&& (2 : Int32)) = (0 : Int32))))), .val (.int (3 : Int32)), .val (.int mv), .val (.int nv), .val (.ref b113), .unset, .unset] [])) _
        refine XS.iload X122.here hx rfl (hb hby at_99) rfl  ?_
        show Steps p.tables e below (T122.setTop (mkF m 101 #[.val (.int p0), .val (.int p1), .val (.int p2), .val (.int p3), .val (.int (0 : Int32)), .val (.int (own_b (¬ ((p0 &&& (2 : Int32)) = (0 : Int32))))), .val (.int (3 : Int32)), .val (.int mv), .val (.int nv), .val (.ref b113), .unset, .unset] [(.int (3 : Int32))])) _
        refine XS.iconst X122.here hx rfl (hb hby at_101) ?_
        show Steps p.tables e below (T122.setTop (mkF m 102 #[.val (.int p0), .val (.int p1), .val (.int p2), .val (.int p3), .val (.int (0 : Int32)), .val (.int (own_b (¬ ((p0 &&& (2 : Int32)) = (0 : Int32))))), .val (.int (3 : Int32)), .val (.int mv), .val (.int nv), .val (.ref b113), .unset, .unset] [(.int (3 : Int32)), (.int (3 : Int32))])) _
        refine XS.icmpNo X122.here hx rfl (hb hby at_102) rfl (flt (by decide)).1 ?_
        show Steps p.tables e below (T122.setTop (mkF m 105 #[.val (.int p0), .val (.int p1), .val (.int p2), .val (.int p3), .val (.int (0 : Int32)), .val (.int (own_b (¬ ((p0 &&& (2 : Int32)) = (0 : Int32))))), .val (.int (3 : Int32)), .val (.int mv), .val (.int nv), .val (.ref b113), .unset, .unset] [])) _
        refine XS.aload X122.here hx rfl (hb hby at_105) rfl rfl ?_
        show Steps p.tables e below (T122.setTop (mkF m 107 #[.val (.int p0), .val (.int p1), .val (.int p2), .val (.int p3), .val (.int (0 : Int32)), .val (.int (own_b (¬ ((p0 &&& (2 : Int32)) = (0 : Int32))))), .val (.int (3 : Int32)), .val (.int mv), .val (.int nv), .val (.ref b113), .unset, .unset] [(.ref b113)])) _
        refine XS.aconstNull X122.here hx rfl (hb hby at_107) ?_
        show Steps p.tables e below (T122.setTop (mkF m 108 #[.val (.int p0), .val (.int p1), .val (.int p2), .val (.int p3), .val (.int (0 : Int32)), .val (.int (own_b (¬ ((p0 &&& (2 : Int32)) = (0 : Int32))))), .val (.int (3 : Int32)), .val (.int mv), .val (.int nv), .val (.ref b113), .unset, .unset] [.null, (.ref b113)])) _
        refine X122.ldc2DoubleC hx hown (mvT hZ (ow hw 37 rfl)) (g := (mkF m 108 #[.val (.int p0), .val (.int p1), .val (.int p2), .val (.int p3), .val (.int (0 : Int32)), .val (.int (own_b (¬ ((p0 &&& (2 : Int32)) = (0 : Int32))))), .val (.int (3 : Int32)), .val (.int mv), .val (.int nv), .val (.ref b113), .unset, .unset] [.null, (.ref b113)])) rfl (hb hby at_108) _ ?_
        show Steps p.tables e below (T122.setTop (mkF m 111 #[.val (.int p0), .val (.int p1), .val (.int p2), .val (.int p3), .val (.int (0 : Int32)), .val (.int (own_b (¬ ((p0 &&& (2 : Int32)) = (0 : Int32))))), .val (.int (3 : Int32)), .val (.int mv), .val (.int nv), .val (.ref b113), .unset, .unset] [(.double (4613937818241073152 : UInt64)), .null, (.ref b113)])) _
        refine st124.trans ?_
        show Steps p.tables e below (T124.setTop (mkF m 114 #[.val (.int p0), .val (.int p1), .val (.int p2), .val (.int p3), .val (.int (0 : Int32)), .val (.int (own_b (¬ ((p0 &&& (2 : Int32)) = (0 : Int32))))), .val (.int (3 : Int32)), .val (.int mv), .val (.int nv), .val (.ref b113), .unset, .unset] [])) _
        refine XS.aload X124.here hx rfl (hb hby at_114) rfl rfl ?_
        show Steps p.tables e below (T124.setTop (mkF m 116 #[.val (.int p0), .val (.int p1), .val (.int p2), .val (.int p3), .val (.int (0 : Int32)), .val (.int (own_b (¬ ((p0 &&& (2 : Int32)) = (0 : Int32))))), .val (.int (3 : Int32)), .val (.int mv), .val (.int nv), .val (.ref b113), .unset, .unset] [(.ref b113)])) _
        refine st126.trans ?_
        show Steps p.tables e below (T126.setTop (mkF m 119 #[.val (.int p0), .val (.int p1), .val (.int p2), .val (.int p3), .val (.int (0 : Int32)), .val (.int (own_b (¬ ((p0 &&& (2 : Int32)) = (0 : Int32))))), .val (.int (3 : Int32)), .val (.int mv), .val (.int nv), .val (.ref b113), .unset, .unset] [(.int (own_b ((0 : Int32) < ((((0 : Int32) + (1 : Int32)) + (1 : Int32)) + (1 : Int32)))))])) _
        refine XS.istore X126.here hx rfl (hb hby at_119) rfl (l' := #[.val (.int p0), .val (.int p1), .val (.int p2), .val (.int p3), .val (.int (0 : Int32)), .val (.int (own_b (¬ ((p0 &&& (2 : Int32)) = (0 : Int32))))), .val (.int (3 : Int32)), .val (.int mv), .val (.int nv), .val (.ref b113), .val (.int (own_b ((0 : Int32) < ((((0 : Int32) + (1 : Int32)) + (1 : Int32)) + (1 : Int32))))), .unset]) rfl ?_
        show Steps p.tables e below (T126.setTop (mkF m 121 #[.val (.int p0), .val (.int p1), .val (.int p2), .val (.int p3), .val (.int (0 : Int32)), .val (.int (own_b (¬ ((p0 &&& (2 : Int32)) = (0 : Int32))))), .val (.int (3 : Int32)), .val (.int mv), .val (.int nv), .val (.ref b113), .val (.int (own_b ((0 : Int32) < ((((0 : Int32) + (1 : Int32)) + (1 : Int32)) + (1 : Int32))))), .unset] [])) _
        refine XS.iload X126.here hx rfl (hb hby at_121) rfl  ?_
        exact kZ)
      by_cases hc128 : (¬ ((p0 &&& (2 : Int32)) = (0 : Int32)))
      ·  -- yes
        obtain ⟨_, _, ⟨T129, L129, k129, n129⟩, -, X129, ⟨Lc129, hQ129, l129, y129, z129⟩, st129⟩ := Jvm.LawKit.callS X126 hx (y := (⟨oL, "doPolls", "(Lcom/example/portunus/portunus/policy/Run;I)V"⟩ : MethodName)) hown (mvT hZ (ow hw 54 rfl)) (mvT hZ (ow hw 55 rfl)) (mvT hZ (ow hw 47 rfl)) (mvT hZ (ow hw 56 rfl)) (by decide) (backOf (W := 0) (rm10n l Z a0 hw [] b113 nv tk_116 ((((0 : Int32) + (1 : Int32)) + (1 : Int32)) + (1 : Int32)) (0 : Int32) (0 : Int32) kt_117 T124.heap n0 Z125 f124_0 f124_1 f124_2 f124_3 f124_4 f124_5 f124_6 gn_b113 u115_0 ne119 hn4 (by decide)) hZ (ow hw 56 rfl) (ow hw 47 rfl) (by decide) (by decide)) (g := (mkF m 130 #[.val (.int p0), .val (.int p1), .val (.int p2), .val (.int p3), .val (.int (0 : Int32)), .val (.int (own_b (¬ ((p0 &&& (2 : Int32)) = (0 : Int32))))), .val (.int (3 : Int32)), .val (.int mv), .val (.int nv), .val (.ref b113), .val (.int (own_b ((0 : Int32) < ((((0 : Int32) + (1 : Int32)) + (1 : Int32)) + (1 : Int32))))), .unset] [(.int nv), (.ref b113)])) rfl (by rw [hml]; rfl) (argsL := [(.ref b113), (.int nv)]) (rest := []) (lenOf pd9 rfl) rfl (by show 2 * 0 + _ ≤ _; exact Nat.le_of_eq rfl) (hb hby at_130) (fun _ _ => ⟨rfl, e126, (by decide : 2 + 0 ≤ _), (by decide : 13 + 0 ≤ _)⟩)
        dsimp only [Pt.U, Pt.locs, Pt.cells, Pt.slots] at X129 l129 y129 z129 st129 hQ129
        subst l129 y129 z129
        obtain ⟨fn_130, rfl, N129q, K129, f129_0, f129_1, f129_2, f129_3, f129_4, f129_5, f129_6⟩ := hQ129
        have N129 := Fr.app N126 N129q
        have Z131 : n0 ≤ T129.heap.size := Nat.le_trans Z125 K129.1
        obtain ⟨_, _, ⟨T132, L132, k132, n132⟩, -, X132, ⟨Lc132, hQ132, l132, y132, z132⟩, st132⟩ := Jvm.LawKit.callS X129 hx (y := (⟨oL, "doMarks", "(Lcom/example/portunus/portunus/policy/Run;I)V"⟩ : MethodName)) hown (mvT hZ (ow hw 45 rfl)) (mvT hZ (ow hw 46 rfl)) (mvT hZ (ow hw 47 rfl)) (mvT hZ (ow hw 48 rfl)) (by decide) (backOf (W := 0) (rm8n l Z a0 hw [] b113 mv tk_116 (own_ps (0 : Int32) ((((0 : Int32) + (1 : Int32)) + (1 : Int32)) + (1 : Int32)) nv) (own_pl (0 : Int32) nv) fn_130 kt_117 T129.heap n0 Z131 f129_0 f129_1 f129_2 f129_3 f129_4 f129_5 f129_6 gn_b113 u115_0 ne119 hm4) hZ (ow hw 48 rfl) (ow hw 47 rfl) (by decide) (by decide)) (g := (mkF m 137 #[.val (.int p0), .val (.int p1), .val (.int p2), .val (.int p3), .val (.int (0 : Int32)), .val (.int (own_b (¬ ((p0 &&& (2 : Int32)) = (0 : Int32))))), .val (.int (3 : Int32)), .val (.int mv), .val (.int nv), .val (.ref b113), .val (.int (own_b ((0 : Int32) < ((((0 : Int32) + (1 : Int32)) + (1 : Int32)) + (1 : Int32))))), .unset] [(.int mv), (.ref b113)])) rfl (by rw [hml]; rfl) (argsL := [(.ref b113), (.int mv)]) (rest := []) (lenOf pd9 rfl) rfl (by show 2 * 0 + _ ≤ _; exact Nat.le_of_eq rfl) (hb hby at_137) (fun _ _ => ⟨rfl, rfl, (by decide : 2 + 0 ≤ _), (by decide : 13 + 0 ≤ _)⟩)
        dsimp only [Pt.U, Pt.locs, Pt.cells, Pt.slots] at X132 l132 y132 z132 st132 hQ132
        subst l132 y132 z132
        obtain ⟨rfl, N132q, K132, f132_0, f132_1, f132_2, f132_3, f132_4, f132_5, f132_6⟩ := hQ132
        have N132 := Fr.app N129 N132q
        have Z133 : n0 ≤ T132.heap.size := Nat.le_trans Z131 K132.1
        obtain ⟨cq134, kq134, q134a, q134b, q134c⟩ := isOf hZ rfl f132_0
        obtain ⟨_, _, ⟨T134, L134, k134, n134⟩, -, X134, ⟨Lc134, hQ134, l134, y134, z134⟩, st134⟩ := X132.virtualBack hx (y := (⟨oR, "hasOther", "()Z"⟩ : MethodName)) (z := (⟨oR, "hasOther", "()Z"⟩ : MethodName)) hown (mvT hZ (ow hw 38 rfl)) (mvT hZ (ow hw 39 rfl)) (notFace_of_selects (args := #[]) (mvT hZ (ow hw 41 rfl))) (mvT hZ (ow hw 41 rfl)) (mvT hZ (ow hw 40 rfl)) (by decide) (backOf (W := 0) (rm7 l Z a0 hw [] b113 (own_ps (0 : Int32) ((((0 : Int32) + (1 : Int32)) + (1 : Int32)) + (1 : Int32)) nv) ((own_pl (0 : Int32) nv) + mv) T132.heap n0 Z133 f132_3 f132_4) hZ (ow hw 42 rfl) (ow hw 7 rfl) (by decide) (by decide)) q134a q134c (g := (mkF m 159 #[.val (.int p0), .val (.int p1), .val (.int p2), .val (.int p3), .val (.int (0 : Int32)), .val (.int (own_b (¬ ((p0 &&& (2 : Int32)) = (0 : Int32))))), .val (.int (3 : Int32)), .val (.int mv), .val (.int nv), .val (.ref b113), .val (.int (own_b ((0 : Int32) < ((((0 : Int32) + (1 : Int32)) + (1 : Int32)) + (1 : Int32))))), .unset] [(.ref b113)])) rfl (by rw [hml]; rfl) (Steps.refl _) (argsL := []) (rest := []) (lenOf pd8 rfl) rfl (by show 2 * 0 + _ ≤ _; exact Nat.le_of_eq rfl) (hb hby at_159) (fun _ _ => ⟨rfl, rfl, (by decide : 2 + 0 ≤ _), (by decide : 13 + 0 ≤ _)⟩)
        dsimp only [Pt.U, Pt.locs, Pt.cells, Pt.slots] at X134 l134 y134 z134 st134 hQ134
        subst l134 y134 z134
        obtain ⟨rfl, N134q, e134⟩ := hQ134
        have N134 := Fr.app N132 N134q
        have pre135 : ∀ tZ, Steps p.tables e below (T134.setTop (mkF m 189 #[.val (.int p0), .val (.int p1), .val (.int p2), .val (.int p3), .val (.int (0 : Int32)), .val (.int (own_b (¬ ((p0 &&& (2 : Int32)) = (0 : Int32))))), .val (.int (3 : Int32)), .val (.int mv), .val (.int nv), .val (.ref b113), .val (.int (own_b ((0 : Int32) < ((((0 : Int32) + (1 : Int32)) + (1 : Int32)) + (1 : Int32))))), .val (.int (own_b (((own_pl (0 : Int32) nv) + mv) < (own_ps (0 : Int32) ((((0 : Int32) + (1 : Int32)) + (1 : Int32)) + (1 : Int32)) nv))))] [(.int (((3 : Int32) - mv) - nv)), (.int (own_b (((own_pl (0 : Int32) nv) + mv) < (own_ps (0 : Int32) ((((0 : Int32) + (1 : Int32)) + (1 : Int32)) + (1 : Int32)) nv))))])) tZ → Steps p.tables e below (s₁.setTop (entryFrame m #[(.int p0), (.int p1), (.int p2), (.int p3)] maxLocals)) tZ := fun tZ kZ => pre127 tZ (by
          show Steps p.tables e below (T126.setTop (mkF m 123 #[.val (.int p0), .val (.int p1), .val (.int p2), .val (.int p3), .val (.int (0 : Int32)), .val (.int (own_b (¬ ((p0 &&& (2 : Int32)) = (0 : Int32))))), .val (.int (3 : Int32)), .val (.int mv), .val (.int nv), .val (.ref b113), .val (.int (own_b ((0 : Int32) < ((((0 : Int32) + (1 : Int32)) + (1 : Int32)) + (1 : Int32))))), .unset] [(.int (own_b (¬ ((p0 &&& (2 : Int32)) = (0 : Int32)))))])) _
          refine XS.ifNo X126.here hx rfl (hb hby at_123) rfl ((if0 _ _).trans (feq (own_b_nz hc128)).1) ?_
          show Steps p.tables e below (T126.setTop (mkF m 126 #[.val (.int p0), .val (.int p1), .val (.int p2), .val (.int p3), .val (.int (0 : Int32)), .val (.int (own_b (¬ ((p0 &&& (2 : Int32)) = (0 : Int32))))), .val (.int (3 : Int32)), .val (.int mv), .val (.int nv), .val (.ref b113), .val (.int (own_b ((0 : Int32) < ((((0 : Int32) + (1 : Int32)) + (1 : Int32)) + (1 : Int32))))), .unset] [])) _
          refine XS.aload X126.here hx rfl (hb hby at_126) rfl rfl ?_
          show Steps p.tables e below (T126.setTop (mkF m 128 #[.val (.int p0), .val (.int p1), .val (.int p2), .val (.int p3), .val (.int (0 : Int32)), .val (.int (own_b (¬ ((p0 &&& (2 : Int32)) = (0 : Int32))))), .val (.int (3 : Int32)), .val (.int mv), .val (.int nv), .val (.ref b113), .val (.int (own_b ((0 : Int32) < ((((0 : Int32) + (1 : Int32)) + (1 : Int32)) + (1 : Int32))))), .unset] [(.ref b113)])) _
          refine XS.iload X126.here hx rfl (hb hby at_128) rfl  ?_
          show Steps p.tables e below (T126.setTop (mkF m 130 #[.val (.int p0), .val (.int p1), .val (.int p2), .val (.int p3), .val (.int (0 : Int32)), .val (.int (own_b (¬ ((p0 &&& (2 : Int32)) = (0 : Int32))))), .val (.int (3 : Int32)), .val (.int mv), .val (.int nv), .val (.ref b113), .val (.int (own_b ((0 : Int32) < ((((0 : Int32) + (1 : Int32)) + (1 : Int32)) + (1 : Int32))))), .unset] [(.int nv), (.ref b113)])) _
          refine st129 _ ?_
          show Steps p.tables e below (T129.setTop (mkF m 133 #[.val (.int p0), .val (.int p1), .val (.int p2), .val (.int p3), .val (.int (0 : Int32)), .val (.int (own_b (¬ ((p0 &&& (2 : Int32)) = (0 : Int32))))), .val (.int (3 : Int32)), .val (.int mv), .val (.int nv), .val (.ref b113), .val (.int (own_b ((0 : Int32) < ((((0 : Int32) + (1 : Int32)) + (1 : Int32)) + (1 : Int32))))), .unset] [])) _
          refine XS.aload X129.here hx rfl (hb hby at_133) rfl rfl ?_
          show Steps p.tables e below (T129.setTop (mkF m 135 #[.val (.int p0), .val (.int p1), .val (.int p2), .val (.int p3), .val (.int (0 : Int32)), .val (.int (own_b (¬ ((p0 &&& (2 : Int32)) = (0 : Int32))))), .val (.int (3 : Int32)), .val (.int mv), .val (.int nv), .val (.ref b113), .val (.int (own_b ((0 : Int32) < ((((0 : Int32) + (1 : Int32)) + (1 : Int32)) + (1 : Int32))))), .unset] [(.ref b113)])) _
          refine XS.iload X129.here hx rfl (hb hby at_135) rfl  ?_
          show Steps p.tables e below (T129.setTop (mkF m 137 #[.val (.int p0), .val (.int p1), .val (.int p2), .val (.int p3), .val (.int (0 : Int32)), .val (.int (own_b (¬ ((p0 &&& (2 : Int32)) = (0 : Int32))))), .val (.int (3 : Int32)), .val (.int mv), .val (.int nv), .val (.ref b113), .val (.int (own_b ((0 : Int32) < ((((0 : Int32) + (1 : Int32)) + (1 : Int32)) + (1 : Int32))))), .unset] [(.int mv), (.ref b113)])) _
          refine st132 _ ?_
          show Steps p.tables e below (T132.setTop (mkF m 140 #[.val (.int p0), .val (.int p1), .val (.int p2), .val (.int p3), .val (.int (0 : Int32)), .val (.int (own_b (¬ ((p0 &&& (2 : Int32)) = (0 : Int32))))), .val (.int (3 : Int32)), .val (.int mv), .val (.int nv), .val (.ref b113), .val (.int (own_b ((0 : Int32) < ((((0 : Int32) + (1 : Int32)) + (1 : Int32)) + (1 : Int32))))), .unset] [])) _
          refine XS.goto X132.here hx rfl (pc0 := 140) (pc' := 157) rfl (hb hby at_140) (by decide) (by decide) ?_
          show Steps p.tables e below (T132.setTop (mkF m 157 #[.val (.int p0), .val (.int p1), .val (.int p2), .val (.int p3), .val (.int (0 : Int32)), .val (.int (own_b (¬ ((p0 &&& (2 : Int32)) = (0 : Int32))))), .val (.int (3 : Int32)), .val (.int mv), .val (.int nv), .val (.ref b113), .val (.int (own_b ((0 : Int32) < ((((0 : Int32) + (1 : Int32)) + (1 : Int32)) + (1 : Int32))))), .unset] [])) _
          refine XS.aload X132.here hx rfl (hb hby at_157) rfl rfl ?_
          show Steps p.tables e below (T132.setTop (mkF m 159 #[.val (.int p0), .val (.int p1), .val (.int p2), .val (.int p3), .val (.int (0 : Int32)), .val (.int (own_b (¬ ((p0 &&& (2 : Int32)) = (0 : Int32))))), .val (.int (3 : Int32)), .val (.int mv), .val (.int nv), .val (.ref b113), .val (.int (own_b ((0 : Int32) < ((((0 : Int32) + (1 : Int32)) + (1 : Int32)) + (1 : Int32))))), .unset] [(.ref b113)])) _
          refine st134.trans ?_
          show Steps p.tables e below (T134.setTop (mkF m 162 #[.val (.int p0), .val (.int p1), .val (.int p2), .val (.int p3), .val (.int (0 : Int32)), .val (.int (own_b (¬ ((p0 &&& (2 : Int32)) = (0 : Int32))))), .val (.int (3 : Int32)), .val (.int mv), .val (.int nv), .val (.ref b113), .val (.int (own_b ((0 : Int32) < ((((0 : Int32) + (1 : Int32)) + (1 : Int32)) + (1 : Int32))))), .unset] [(.int (own_b (((own_pl (0 : Int32) nv) + mv) < (own_ps (0 : Int32) ((((0 : Int32) + (1 : Int32)) + (1 : Int32)) + (1 : Int32)) nv))))])) _
          refine XS.istore X134.here hx rfl (hb hby at_162) rfl (l' := #[.val (.int p0), .val (.int p1), .val (.int p2), .val (.int p3), .val (.int (0 : Int32)), .val (.int (own_b (¬ ((p0 &&& (2 : Int32)) = (0 : Int32))))), .val (.int (3 : Int32)), .val (.int mv), .val (.int nv), .val (.ref b113), .val (.int (own_b ((0 : Int32) < ((((0 : Int32) + (1 : Int32)) + (1 : Int32)) + (1 : Int32))))), .val (.int (own_b (((own_pl (0 : Int32) nv) + mv) < (own_ps (0 : Int32) ((((0 : Int32) + (1 : Int32)) + (1 : Int32)) + (1 : Int32)) nv))))]) rfl ?_
          show Steps p.tables e below (T134.setTop (mkF m 164 #[.val (.int p0), .val (.int p1), .val (.int p2), .val (.int p3), .val (.int (0 : Int32)), .val (.int (own_b (¬ ((p0 &&& (2 : Int32)) = (0 : Int32))))), .val (.int (3 : Int32)), .val (.int mv), .val (.int nv), .val (.ref b113), .val (.int (own_b ((0 : Int32) < ((((0 : Int32) + (1 : Int32)) + (1 : Int32)) + (1 : Int32))))), .val (.int (own_b (((own_pl (0 : Int32) nv) + mv) < (own_ps (0 : Int32) ((((0 : Int32) + (1 : Int32)) + (1 : Int32)) + (1 : Int32)) nv))))] [])) _
          refine XS.iload X134.here hx rfl (hb hby at_164) rfl  ?_
          show Steps p.tables e below (T134.setTop (mkF m 166 #[.val (.int p0), .val (.int p1), .val (.int p2), .val (.int p3), .val (.int (0 : Int32)), .val (.int (own_b (¬ ((p0 &&& (2 : Int32)) = (0 : Int32))))), .val (.int (3 : Int32)), .val (.int mv), .val (.int nv), .val (.ref b113), .val (.int (own_b ((0 : Int32) < ((((0 : Int32) + (1 : Int32)) + (1 : Int32)) + (1 : Int32))))), .val (.int (own_b (((own_pl (0 : Int32) nv) + mv) < (own_ps (0 : Int32) ((((0 : Int32) + (1 : Int32)) + (1 : Int32)) + (1 : Int32)) nv))))] [(.int (own_b ((0 : Int32) < ((((0 : Int32) + (1 : Int32)) + (1 : Int32)) + (1 : Int32)))))])) _
          refine XS.iload X134.here hx rfl (hb hby at_166) rfl  ?_
          show Steps p.tables e below (T134.setTop (mkF m 168 #[.val (.int p0), .val (.int p1), .val (.int p2), .val (.int p3), .val (.int (0 : Int32)), .val (.int (own_b (¬ ((p0 &&& (2 : Int32)) = (0 : Int32))))), .val (.int (3 : Int32)), .val (.int mv), .val (.int nv), .val (.ref b113), .val (.int (own_b ((0 : Int32) < ((((0 : Int32) + (1 : Int32)) + (1 : Int32)) + (1 : Int32))))), .val (.int (own_b (((own_pl (0 : Int32) nv) + mv) < (own_ps (0 : Int32) ((((0 : Int32) + (1 : Int32)) + (1 : Int32)) + (1 : Int32)) nv))))] [(.int (3 : Int32)), (.int (own_b ((0 : Int32) < ((((0 : Int32) + (1 : Int32)) + (1 : Int32)) + (1 : Int32)))))])) _
          refine XS.ifNo X134.here hx rfl (hb hby at_168) rfl ((if0 _ _).trans (tlt (by decide)).2.2.2) ?_
          show Steps p.tables e below (T134.setTop (mkF m 171 #[.val (.int p0), .val (.int p1), .val (.int p2), .val (.int p3), .val (.int (0 : Int32)), .val (.int (own_b (¬ ((p0 &&& (2 : Int32)) = (0 : Int32))))), .val (.int (3 : Int32)), .val (.int mv), .val (.int nv), .val (.ref b113), .val (.int (own_b ((0 : Int32) < ((((0 : Int32) + (1 : Int32)) + (1 : Int32)) + (1 : Int32))))), .val (.int (own_b (((own_pl (0 : Int32) nv) + mv) < (own_ps (0 : Int32) ((((0 : Int32) + (1 : Int32)) + (1 : Int32)) + (1 : Int32)) nv))))] [(.int (own_b ((0 : Int32) < ((((0 : Int32) + (1 : Int32)) + (1 : Int32)) + (1 : Int32)))))])) _
          refine XS.iconst X134.here hx rfl (hb hby at_171) ?_
          show Steps p.tables e below (T134.setTop (mkF m 172 #[.val (.int p0), .val (.int p1), .val (.int p2), .val (.int p3), .val (.int (0 : Int32)), .val (.int (own_b (¬ ((p0 &&& (2 : Int32)) = (0 : Int32))))), .val (.int (3 : Int32)), .val (.int mv), .val (.int nv), .val (.ref b113), .val (.int (own_b ((0 : Int32) < ((((0 : Int32) + (1 : Int32)) + (1 : Int32)) + (1 : Int32))))), .val (.int (own_b (((own_pl (0 : Int32) nv) + mv) < (own_ps (0 : Int32) ((((0 : Int32) + (1 : Int32)) + (1 : Int32)) + (1 : Int32)) nv))))] [(.int (1 : Int32)), (.int (own_b ((0 : Int32) < ((((0 : Int32) + (1 : Int32)) + (1 : Int32)) + (1 : Int32)))))])) _
          refine XS.goto X134.here hx rfl (pc0 := 172) (pc' := 176) rfl (hb hby at_172) (by decide) (by decide) ?_
          show Steps p.tables e below (T134.setTop (mkF m 176 #[.val (.int p0), .val (.int p1), .val (.int p2), .val (.int p3), .val (.int (0 : Int32)), .val (.int (own_b (¬ ((p0 &&& (2 : Int32)) = (0 : Int32))))), .val (.int (3 : Int32)), .val (.int mv), .val (.int nv), .val (.ref b113), .val (.int (own_b ((0 : Int32) < ((((0 : Int32) + (1 : Int32)) + (1 : Int32)) + (1 : Int32))))), .val (.int (own_b (((own_pl (0 : Int32) nv) + mv) < (own_ps (0 : Int32) ((((0 : Int32) + (1 : Int32)) + (1 : Int32)) + (1 : Int32)) nv))))] [(.int (1 : Int32)), (.int (own_b ((0 : Int32) < ((((0 : Int32) + (1 : Int32)) + (1 : Int32)) + (1 : Int32)))))])) _
          refine XS.icmpNo X134.here hx rfl (hb hby at_176) rfl (teq (by decide)).2 ?_
          show Steps p.tables e below (T134.setTop (mkF m 179 #[.val (.int p0), .val (.int p1), .val (.int p2), .val (.int p3), .val (.int (0 : Int32)), .val (.int (own_b (¬ ((p0 &&& (2 : Int32)) = (0 : Int32))))), .val (.int (3 : Int32)), .val (.int mv), .val (.int nv), .val (.ref b113), .val (.int (own_b ((0 : Int32) < ((((0 : Int32) + (1 : Int32)) + (1 : Int32)) + (1 : Int32))))), .val (.int (own_b (((own_pl (0 : Int32) nv) + mv) < (own_ps (0 : Int32) ((((0 : Int32) + (1 : Int32)) + (1 : Int32)) + (1 : Int32)) nv))))] [])) _
          refine XS.iload X134.here hx rfl (hb hby at_179) rfl  ?_
          show Steps p.tables e below (T134.setTop (mkF m 181 #[.val (.int p0), .val (.int p1), .val (.int p2), .val (.int p3), .val (.int (0 : Int32)), .val (.int (own_b (¬ ((p0 &&& (2 : Int32)) = (0 : Int32))))), .val (.int (3 : Int32)), .val (.int mv), .val (.int nv), .val (.ref b113), .val (.int (own_b ((0 : Int32) < ((((0 : Int32) + (1 : Int32)) + (1 : Int32)) + (1 : Int32))))), .val (.int (own_b (((own_pl (0 : Int32) nv) + mv) < (own_ps (0 : Int32) ((((0 : Int32) + (1 : Int32)) + (1 : Int32)) + (1 : Int32)) nv))))] [(.int (own_b (((own_pl (0 : Int32) nv) + mv) < (own_ps (0 : Int32) ((((0 : Int32) + (1 : Int32)) + (1 : Int32)) + (1 : Int32)) nv))))])) _
          refine XS.iload X134.here hx rfl (hb hby at_181) rfl  ?_
          show Steps p.tables e below (T134.setTop (mkF m 183 #[.val (.int p0), .val (.int p1), .val (.int p2), .val (.int p3), .val (.int (0 : Int32)), .val (.int (own_b (¬ ((p0 &&& (2 : Int32)) = (0 : Int32))))), .val (.int (3 : Int32)), .val (.int mv), .val (.int nv), .val (.ref b113), .val (.int (own_b ((0 : Int32) < ((((0 : Int32) + (1 : Int32)) + (1 : Int32)) + (1 : Int32))))), .val (.int (own_b (((own_pl (0 : Int32) nv) + mv) < (own_ps (0 : Int32) ((((0 : Int32) + (1 : Int32)) + (1 : Int32)) + (1 : Int32)) nv))))] [(.int (3 : Int32)), (.int (own_b (((own_pl (0 : Int32) nv) + mv) < (own_ps (0 : Int32) ((((0 : Int32) + (1 : Int32)) + (1 : Int32)) + (1 : Int32)) nv))))])) _
          refine XS.iload X134.here hx rfl (hb hby at_183) rfl  ?_
          show Steps p.tables e below (T134.setTop (mkF m 185 #[.val (.int p0), .val (.int p1), .val (.int p2), .val (.int p3), .val (.int (0 : Int32)), .val (.int (own_b (¬ ((p0 &&& (2 : Int32)) = (0 : Int32))))), .val (.int (3 : Int32)), .val (.int mv), .val (.int nv), .val (.ref b113), .val (.int (own_b ((0 : Int32) < ((((0 : Int32) + (1 : Int32)) + (1 : Int32)) + (1 : Int32))))), .val (.int (own_b (((own_pl (0 : Int32) nv) + mv) < (own_ps (0 : Int32) ((((0 : Int32) + (1 : Int32)) + (1 : Int32)) + (1 : Int32)) nv))))] [(.int mv), (.int (3 : Int32)), (.int (own_b (((own_pl (0 : Int32) nv) + mv) < (own_ps (0 : Int32) ((((0 : Int32) + (1 : Int32)) + (1 : Int32)) + (1 : Int32)) nv))))])) _
          refine XS.isub X134.here hx rfl (hb hby at_185) rfl ?_
          show Steps p.tables e below (T134.setTop (mkF m 186 #[.val (.int p0), .val (.int p1), .val (.int p2), .val (.int p3), .val (.int (0 : Int32)), .val (.int (own_b (¬ ((p0 &&& (2 : Int32)) = (0 : Int32))))), .val (.int (3 : Int32)), .val (.int mv), .val (.int nv), .val (.ref b113), .val (.int (own_b ((0 : Int32) < ((((0 : Int32) + (1 : Int32)) + (1 : Int32)) + (1 : Int32))))), .val (.int (own_b (((own_pl (0 : Int32) nv) + mv) < (own_ps (0 : Int32) ((((0 : Int32) + (1 : Int32)) + (1 : Int32)) + (1 : Int32)) nv))))] [(.int ((3 : Int32) - mv)), (.int (own_b (((own_pl (0 : Int32) nv) + mv) < (own_ps (0 : Int32) ((((0 : Int32) + (1 : Int32)) + (1 : Int32)) + (1 : Int32)) nv))))])) _
          refine XS.iload X134.here hx rfl (hb hby at_186) rfl  ?_
          show Steps p.tables e below (T134.setTop (mkF m 188 #[.val (.int p0), .val (.int p1), .val (.int p2), .val (.int p3), .val (.int (0 : Int32)), .val (.int (own_b (¬ ((p0 &&& (2 : Int32)) = (0 : Int32))))), .val (.int (3 : Int32)), .val (.int mv), .val (.int nv), .val (.ref b113), .val (.int (own_b ((0 : Int32) < ((((0 : Int32) + (1 : Int32)) + (1 : Int32)) + (1 : Int32))))), .val (.int (own_b (((own_pl (0 : Int32) nv) + mv) < (own_ps (0 : Int32) ((((0 : Int32) + (1 : Int32)) + (1 : Int32)) + (1 : Int32)) nv))))] [(.int nv), (.int ((3 : Int32) - mv)), (.int (own_b (((own_pl (0 : Int32) nv) + mv) < (own_ps (0 : Int32) ((((0 : Int32) + (1 : Int32)) + (1 : Int32)) + (1 : Int32)) nv))))])) _
          refine XS.isub X134.here hx rfl (hb hby at_188) rfl ?_
          exact kZ)
        have pre137 : ∀ tZ, Steps p.tables e below (T134.setTop (mkF m 197 #[.val (.int p0), .val (.int p1), .val (.int p2), .val (.int p3), .val (.int (0 : Int32)), .val (.int (own_b (¬ ((p0 &&& (2 : Int32)) = (0 : Int32))))), .val (.int (3 : Int32)), .val (.int mv), .val (.int nv), .val (.ref b113), .val (.int (own_b ((0 : Int32) < ((((0 : Int32) + (1 : Int32)) + (1 : Int32)) + (1 : Int32))))), .val (.int (own_b (((own_pl (0 : Int32) nv) + mv) < (own_ps (0 : Int32) ((((0 : Int32) + (1 : Int32)) + (1 : Int32)) + (1 : Int32)) nv))))] [(.int (own_b ((0 : Int32) < (((3 : Int32) - mv) - nv)))), (.int (own_b (((own_pl (0 : Int32) nv) + mv) < (own_ps (0 : Int32) ((((0 : Int32) + (1 : Int32)) + (1 : Int32)) + (1 : Int32)) nv))))])) tZ → Steps p.tables e below (s₁.setTop (entryFrame m #[(.int p0), (.int p1), (.int p2), (.int p3)] maxLocals)) tZ := fun tZ kZ => pre135 tZ (by
          by_cases hc136 : (0 : Int32) < (((3 : Int32) - mv) - nv)
          ·  -- yes
            show Steps p.tables e below (T134.setTop (mkF m 189 #[.val (.int p0), .val (.int p1), .val (.int p2), .val (.int p3), .val (.int (0 : Int32)), .val (.int (own_b (¬ ((p0 &&& (2 : Int32)) = (0 : Int32))))), .val (.int (3 : Int32)), .val (.int mv), .val (.int nv), .val (.ref b113), .val (.int (own_b ((0 : Int32) < ((((0 : Int32) + (1 : Int32)) + (1 : Int32)) + (1 : Int32))))), .val (.int (own_b (((own_pl (0 : Int32) nv) + mv) < (own_ps (0 : Int32) ((((0 : Int32) + (1 : Int32)) + (1 : Int32)) + (1 : Int32)) nv))))] [(.int (((3 : Int32) - mv) - nv)), (.int (own_b (((own_pl (0 : Int32) nv) + mv) < (own_ps (0 : Int32) ((((0 : Int32) + (1 : Int32)) + (1 : Int32)) + (1 : Int32)) nv))))])) _
            refine XS.ifNo X134.here hx rfl (hb hby at_189) rfl ((if0 _ _).trans (tlt hc136).2.2.2) ?_
            show Steps p.tables e below (T134.setTop (mkF m 192 #[.val (.int p0), .val (.int p1), .val (.int p2), .val (.int p3), .val (.int (0 : Int32)), .val (.int (own_b (¬ ((p0 &&& (2 : Int32)) = (0 : Int32))))), .val (.int (3 : Int32)), .val (.int mv), .val (.int nv), .val (.ref b113), .val (.int (own_b ((0 : Int32) < ((((0 : Int32) + (1 : Int32)) + (1 : Int32)) + (1 : Int32))))), .val (.int (own_b (((own_pl (0 : Int32) nv) + mv) < (own_ps (0 : Int32) ((((0 : Int32) + (1 : Int32)) + (1 : Int32)) + (1 : Int32)) nv))))] [(.int (own_b (((own_pl (0 : Int32) nv) + mv) < (own_ps (0 : Int32) ((((0 : Int32) + (1 : Int32)) + (1 : Int32)) + (1 : Int32)) nv))))])) _
            refine XS.iconst X134.here hx rfl (hb hby at_192) ?_
            show Steps p.tables e below (T134.setTop (mkF m 193 #[.val (.int p0), .val (.int p1), .val (.int p2), .val (.int p3), .val (.int (0 : Int32)), .val (.int (own_b (¬ ((p0 &&& (2 : Int32)) = (0 : Int32))))), .val (.int (3 : Int32)), .val (.int mv), .val (.int nv), .val (.ref b113), .val (.int (own_b ((0 : Int32) < ((((0 : Int32) + (1 : Int32)) + (1 : Int32)) + (1 : Int32))))), .val (.int (own_b (((own_pl (0 : Int32) nv) + mv) < (own_ps (0 : Int32) ((((0 : Int32) + (1 : Int32)) + (1 : Int32)) + (1 : Int32)) nv))))] [(.int (1 : Int32)), (.int (own_b (((own_pl (0 : Int32) nv) + mv) < (own_ps (0 : Int32) ((((0 : Int32) + (1 : Int32)) + (1 : Int32)) + (1 : Int32)) nv))))])) _
            refine XS.goto X134.here hx rfl (pc0 := 193) (pc' := 197) rfl (hb hby at_193) (by decide) (by decide) ?_
            have ekZ : (own_b ((0 : Int32) < (((3 : Int32) - mv) - nv))) = (1 : Int32) := by first | (simp only [own_b, eq_true hc136, and_true, true_and, and_false, false_and, or_true, true_or, or_false, false_or, not_true_eq_false, not_false_eq_true, if_true, if_false, reduceIte]; done) | (simp [own_b, hc136]; done)
            rw [ekZ] at kZ
            exact kZ
          ·  -- no
            show Steps p.tables e below (T134.setTop (mkF m 189 #[.val (.int p0), .val (.int p1), .val (.int p2), .val (.int p3), .val (.int (0 : Int32)), .val (.int (own_b (¬ ((p0 &&& (2 : Int32)) = (0 : Int32))))), .val (.int (3 : Int32)), .val (.int mv), .val (.int nv), .val (.ref b113), .val (.int (own_b ((0 : Int32) < ((((0 : Int32) + (1 : Int32)) + (1 : Int32)) + (1 : Int32))))), .val (.int (own_b (((own_pl (0 : Int32) nv) + mv) < (own_ps (0 : Int32) ((((0 : Int32) + (1 : Int32)) + (1 : Int32)) + (1 : Int32)) nv))))] [(.int (((3 : Int32) - mv) - nv)), (.int (own_b (((own_pl (0 : Int32) nv) + mv) < (own_ps (0 : Int32) ((((0 : Int32) + (1 : Int32)) + (1 : Int32)) + (1 : Int32)) nv))))])) _
            refine XS.ifYes X134.here hx rfl (pc0 := 189) (pc' := 196) rfl (hb hby at_189) rfl ((if0 _ _).trans (flt hc136).2.2.2) (by decide) (by decide) ?_
            show Steps p.tables e below (T134.setTop (mkF m 196 #[.val (.int p0), .val (.int p1), .val (.int p2), .val (.int p3), .val (.int (0 : Int32)), .val (.int (own_b (¬ ((p0 &&& (2 : Int32)) = (0 : Int32))))), .val (.int (3 : Int32)), .val (.int mv), .val (.int nv), .val (.ref b113), .val (.int (own_b ((0 : Int32) < ((((0 : Int32) + (1 : Int32)) + (1 : Int32)) + (1 : Int32))))), .val (.int (own_b (((own_pl (0 : Int32) nv) + mv) < (own_ps (0 : Int32) ((((0 : Int32) + (1 : Int32)) + (1 : Int32)) + (1 : Int32)) nv))))] [(.int (own_b (((own_pl (0 : Int32) nv) + mv) < (own_ps (0 : Int32) ((((0 : Int32) + (1 : Int32)) + (1 : Int32)) + (1 : Int32)) nv))))])) _
            refine XS.iconst X134.here hx rfl (hb hby at_196) ?_
            have ekZ : (own_b ((0 : Int32) < (((3 : Int32) - mv) - nv))) = (0 : Int32) := by first | (simp only [own_b, eq_false hc136, and_true, true_and, and_false, false_and, or_true, true_or, or_false, false_or, not_true_eq_false, not_false_eq_true, if_true, if_false, reduceIte]; done) | (simp [own_b, hc136]; done)
            rw [ekZ] at kZ
            exact kZ)
        obtain ⟨fsZ, hrZ, hrun, hended, hW, hsame⟩ := X134.leave (v := some (.int (1 : Int32))) (fun h => by rw [Bd.returns] at h; cases h)
        refine ⟨_, _, pre137 _ ?_, hrun, hended, _, _, rfl, ?_, ⟨_, rfl⟩, hW, hsame.mono (by decide) (by decide)⟩
        · show Steps p.tables e below (T134.setTop (mkF m 197 #[.val (.int p0), .val (.int p1), .val (.int p2), .val (.int p3), .val (.int (0 : Int32)), .val (.int (own_b (¬ ((p0 &&& (2 : Int32)) = (0 : Int32))))), .val (.int (3 : Int32)), .val (.int mv), .val (.int nv), .val (.ref b113), .val (.int (own_b ((0 : Int32) < ((((0 : Int32) + (1 : Int32)) + (1 : Int32)) + (1 : Int32))))), .val (.int (own_b (((own_pl (0 : Int32) nv) + mv) < (own_ps (0 : Int32) ((((0 : Int32) + (1 : Int32)) + (1 : Int32)) + (1 : Int32)) nv))))] [(.int (own_b ((0 : Int32) < (((3 : Int32) - mv) - nv)))), (.int (own_b (((own_pl (0 : Int32) nv) + mv) < (own_ps (0 : Int32) ((((0 : Int32) + (1 : Int32)) + (1 : Int32)) + (1 : Int32)) nv))))])) _
          refine XS.icmpNo X134.here hx rfl (hb hby at_197) rfl (teq (own_fin_p (by decide) hm4 hn4 hm3.2.2 hn3.2.2)).2 ?_
          show Steps p.tables e below (T134.setTop (mkF m 200 #[.val (.int p0), .val (.int p1), .val (.int p2), .val (.int p3), .val (.int (0 : Int32)), .val (.int (own_b (¬ ((p0 &&& (2 : Int32)) = (0 : Int32))))), .val (.int (3 : Int32)), .val (.int mv), .val (.int nv), .val (.ref b113), .val (.int (own_b ((0 : Int32) < ((((0 : Int32) + (1 : Int32)) + (1 : Int32)) + (1 : Int32))))), .val (.int (own_b (((own_pl (0 : Int32) nv) + mv) < (own_ps (0 : Int32) ((((0 : Int32) + (1 : Int32)) + (1 : Int32)) + (1 : Int32)) nv))))] [])) _
          refine XS.iconst X134.here hx rfl (hb hby at_200) ?_
          show Steps p.tables e below (T134.setTop (mkF m 201 #[.val (.int p0), .val (.int p1), .val (.int p2), .val (.int p3), .val (.int (0 : Int32)), .val (.int (own_b (¬ ((p0 &&& (2 : Int32)) = (0 : Int32))))), .val (.int (3 : Int32)), .val (.int mv), .val (.int nv), .val (.ref b113), .val (.int (own_b ((0 : Int32) < ((((0 : Int32) + (1 : Int32)) + (1 : Int32)) + (1 : Int32))))), .val (.int (own_b (((own_pl (0 : Int32) nv) + mv) < (own_ps (0 : Int32) ((((0 : Int32) + (1 : Int32)) + (1 : Int32)) + (1 : Int32)) nv))))] [(.int (1 : Int32))])) _
          refine XS.goto X134.here hx rfl (pc0 := 201) (pc' := 205) rfl (hb hby at_201) (by decide) (by decide) ?_
          show Steps p.tables e below (T134.setTop (mkF m 205 #[.val (.int p0), .val (.int p1), .val (.int p2), .val (.int p3), .val (.int (0 : Int32)), .val (.int (own_b (¬ ((p0 &&& (2 : Int32)) = (0 : Int32))))), .val (.int (3 : Int32)), .val (.int mv), .val (.int nv), .val (.ref b113), .val (.int (own_b ((0 : Int32) < ((((0 : Int32) + (1 : Int32)) + (1 : Int32)) + (1 : Int32))))), .val (.int (own_b (((own_pl (0 : Int32) nv) + mv) < (own_ps (0 : Int32) ((((0 : Int32) + (1 : Int32)) + (1 : Int32)) + (1 : Int32)) nv))))] [(.int (1 : Int32))])) _
          exact retN X134 hx (t := .boolean) Bd.returns (by simp) (hb hby at_205) hrZ
        · show Q0 Z p0 p1 p2 p3 h0 n0 _ T134.heap _
          rw [e134]
          exact ⟨rfl, N134⟩
      ·  -- no
        obtain ⟨_, _, ⟨T138, L138, k138, n138⟩, -, X138, ⟨Lc138, hQ138, l138, y138, z138⟩, st138⟩ := Jvm.LawKit.callS X126 hx (y := (⟨oL, "doMarks", "(Lcom/example/portunus/portunus/policy/Run;I)V"⟩ : MethodName)) hown (mvT hZ (ow hw 45 rfl)) (mvT hZ (ow hw 46 rfl)) (mvT hZ (ow hw 47 rfl)) (mvT hZ (ow hw 48 rfl)) (by decide) (backOf (W := 0) (rm8n l Z a0 hw [] b113 mv tk_116 ((((0 : Int32) + (1 : Int32)) + (1 : Int32)) + (1 : Int32)) (0 : Int32) (0 : Int32) kt_117 T124.heap n0 Z125 f124_0 f124_1 f124_2 f124_3 f124_4 f124_5 f124_6 gn_b113 u115_0 ne119 hm4) hZ (ow hw 48 rfl) (ow hw 47 rfl) (by decide) (by decide)) (g := (mkF m 147 #[.val (.int p0), .val (.int p1), .val (.int p2), .val (.int p3), .val (.int (0 : Int32)), .val (.int (own_b (¬ ((p0 &&& (2 : Int32)) = (0 : Int32))))), .val (.int (3 : Int32)), .val (.int mv), .val (.int nv), .val (.ref b113), .val (.int (own_b ((0 : Int32) < ((((0 : Int32) + (1 : Int32)) + (1 : Int32)) + (1 : Int32))))), .unset] [(.int mv), (.ref b113)])) rfl (by rw [hml]; rfl) (argsL := [(.ref b113), (.int mv)]) (rest := []) (lenOf pd9 rfl) rfl (by show 2 * 0 + _ ≤ _; exact Nat.le_of_eq rfl) (hb hby at_147) (fun _ _ => ⟨rfl, e126, (by decide : 2 + 0 ≤ _), (by decide : 13 + 0 ≤ _)⟩)
        dsimp only [Pt.U, Pt.locs, Pt.cells, Pt.slots] at X138 l138 y138 z138 st138 hQ138
        subst l138 y138 z138
        obtain ⟨rfl, N138q, K138, f138_0, f138_1, f138_2, f138_3, f138_4, f138_5, f138_6⟩ := hQ138
        have N138 := Fr.app N126 N138q
        have Z139 : n0 ≤ T138.heap.size := Nat.le_trans Z125 K138.1
        obtain ⟨_, _, ⟨T140, L140, k140, n140⟩, -, X140, ⟨Lc140, hQ140, l140, y140, z140⟩, st140⟩ := Jvm.LawKit.callS X138 hx (y := (⟨oL, "doPolls", "(Lcom/example/portunus/portunus/policy/Run;I)V"⟩ : MethodName)) hown (mvT hZ (ow hw 54 rfl)) (mvT hZ (ow hw 55 rfl)) (mvT hZ (ow hw 47 rfl)) (mvT hZ (ow hw 56 rfl)) (by decide) (backOf (W := 0) (rm10n l Z a0 hw [] b113 nv tk_116 ((((0 : Int32) + (1 : Int32)) + (1 : Int32)) + (1 : Int32)) ((0 : Int32) + mv) (0 : Int32) kt_117 T138.heap n0 Z139 f138_0 f138_1 f138_2 f138_3 f138_4 f138_5 f138_6 gn_b113 u115_0 ne119 hn4 (own_nz1 hm4)) hZ (ow hw 56 rfl) (ow hw 47 rfl) (by decide) (by decide)) (g := (mkF m 154 #[.val (.int p0), .val (.int p1), .val (.int p2), .val (.int p3), .val (.int (0 : Int32)), .val (.int (own_b (¬ ((p0 &&& (2 : Int32)) = (0 : Int32))))), .val (.int (3 : Int32)), .val (.int mv), .val (.int nv), .val (.ref b113), .val (.int (own_b ((0 : Int32) < ((((0 : Int32) + (1 : Int32)) + (1 : Int32)) + (1 : Int32))))), .unset] [(.int nv), (.ref b113)])) rfl (by rw [hml]; rfl) (argsL := [(.ref b113), (.int nv)]) (rest := []) (lenOf pd9 rfl) rfl (by show 2 * 0 + _ ≤ _; exact Nat.le_of_eq rfl) (hb hby at_154) (fun _ _ => ⟨rfl, rfl, (by decide : 2 + 0 ≤ _), (by decide : 13 + 0 ≤ _)⟩)
        dsimp only [Pt.U, Pt.locs, Pt.cells, Pt.slots] at X140 l140 y140 z140 st140 hQ140
        subst l140 y140 z140
        obtain ⟨fn_141, rfl, N140q, K140, f140_0, f140_1, f140_2, f140_3, f140_4, f140_5, f140_6⟩ := hQ140
        have N140 := Fr.app N138 N140q
        have Z142 : n0 ≤ T140.heap.size := Nat.le_trans Z139 K140.1
        obtain ⟨cq143, kq143, q143a, q143b, q143c⟩ := isOf hZ rfl f140_0
        obtain ⟨_, _, ⟨T143, L143, k143, n143⟩, -, X143, ⟨Lc143, hQ143, l143, y143, z143⟩, st143⟩ := X140.virtualBack hx (y := (⟨oR, "hasOther", "()Z"⟩ : MethodName)) (z := (⟨oR, "hasOther", "()Z"⟩ : MethodName)) hown (mvT hZ (ow hw 38 rfl)) (mvT hZ (ow hw 39 rfl)) (notFace_of_selects (args := #[]) (mvT hZ (ow hw 41 rfl))) (mvT hZ (ow hw 41 rfl)) (mvT hZ (ow hw 40 rfl)) (by decide) (backOf (W := 0) (rm7 l Z a0 hw [] b113 (own_ps ((0 : Int32) + mv) ((((0 : Int32) + (1 : Int32)) + (1 : Int32)) + (1 : Int32)) nv) (own_pl ((0 : Int32) + mv) nv) T140.heap n0 Z142 f140_3 f140_4) hZ (ow hw 42 rfl) (ow hw 7 rfl) (by decide) (by decide)) q143a q143c (g := (mkF m 159 #[.val (.int p0), .val (.int p1), .val (.int p2), .val (.int p3), .val (.int (0 : Int32)), .val (.int (own_b (¬ ((p0 &&& (2 : Int32)) = (0 : Int32))))), .val (.int (3 : Int32)), .val (.int mv), .val (.int nv), .val (.ref b113), .val (.int (own_b ((0 : Int32) < ((((0 : Int32) + (1 : Int32)) + (1 : Int32)) + (1 : Int32))))), .unset] [(.ref b113)])) rfl (by rw [hml]; rfl) (Steps.refl _) (argsL := []) (rest := []) (lenOf pd8 rfl) rfl (by show 2 * 0 + _ ≤ _; exact Nat.le_of_eq rfl) (hb hby at_159) (fun _ _ => ⟨rfl, rfl, (by decide : 2 + 0 ≤ _), (by decide : 13 + 0 ≤ _)⟩)
        dsimp only [Pt.U, Pt.locs, Pt.cells, Pt.slots] at X143 l143 y143 z143 st143 hQ143
        subst l143 y143 z143
        obtain ⟨rfl, N143q, e143⟩ := hQ143
        have N143 := Fr.app N140 N143q
        have pre144 : ∀ tZ, Steps p.tables e below (T143.setTop (mkF m 189 #[.val (.int p0), .val (.int p1), .val (.int p2), .val (.int p3), .val (.int (0 : Int32)), .val (.int (own_b (¬ ((p0 &&& (2 : Int32)) = (0 : Int32))))), .val (.int (3 : Int32)), .val (.int mv), .val (.int nv), .val (.ref b113), .val (.int (own_b ((0 : Int32) < ((((0 : Int32) + (1 : Int32)) + (1 : Int32)) + (1 : Int32))))), .val (.int (own_b ((own_pl ((0 : Int32) + mv) nv) < (own_ps ((0 : Int32) + mv) ((((0 : Int32) + (1 : Int32)) + (1 : Int32)) + (1 : Int32)) nv))))] [(.int (((3 : Int32) - mv) - nv)), (.int (own_b ((own_pl ((0 : Int32) + mv) nv) < (own_ps ((0 : Int32) + mv) ((((0 : Int32) + (1 : Int32)) + (1 : Int32)) + (1 : Int32)) nv))))])) tZ → Steps p.tables e below (s₁.setTop (entryFrame m #[(.int p0), (.int p1), (.int p2), (.int p3)] maxLocals)) tZ := fun tZ kZ => pre127 tZ (by
          show Steps p.tables e below (T126.setTop (mkF m 123 #[.val (.int p0), .val (.int p1), .val (.int p2), .val (.int p3), .val (.int (0 : Int32)), .val (.int (own_b (¬ ((p0 &&& (2 : Int32)) = (0 : Int32))))), .val (.int (3 : Int32)), .val (.int mv), .val (.int nv), .val (.ref b113), .val (.int (own_b ((0 : Int32) < ((((0 : Int32) + (1 : Int32)) + (1 : Int32)) + (1 : Int32))))), .unset] [(.int (own_b (¬ ((p0 &&& (2 : Int32)) = (0 : Int32)))))])) _
          refine XS.ifYes X126.here hx rfl (pc0 := 123) (pc' := 143) rfl (hb hby at_123) rfl ((if0 _ _).trans (teq (own_b_f hc128)).1) (by decide) (by decide) ?_
          show Steps p.tables e below (T126.setTop (mkF m 143 #[.val (.int p0), .val (.int p1), .val (.int p2), .val (.int p3), .val (.int (0 : Int32)), .val (.int (own_b (¬ ((p0 &&& (2 : Int32)) = (0 : Int32))))), .val (.int (3 : Int32)), .val (.int mv), .val (.int nv), .val (.ref b113), .val (.int (own_b ((0 : Int32) < ((((0 : Int32) + (1 : Int32)) + (1 : Int32)) + (1 : Int32))))), .unset] [])) _
          refine XS.aload X126.here hx rfl (hb hby at_143) rfl rfl ?_
          show Steps p.tables e below (T126.setTop (mkF m 145 #[.val (.int p0), .val (.int p1), .val (.int p2), .val (.int p3), .val (.int (0 : Int32)), .val (.int (own_b (¬ ((p0 &&& (2 : Int32)) = (0 : Int32))))), .val (.int (3 : Int32)), .val (.int mv), .val (.int nv), .val (.ref b113), .val (.int (own_b ((0 : Int32) < ((((0 : Int32) + (1 : Int32)) + (1 : Int32)) + (1 : Int32))))), .unset] [(.ref b113)])) _
          refine XS.iload X126.here hx rfl (hb hby at_145) rfl  ?_
          show Steps p.tables e below (T126.setTop (mkF m 147 #[.val (.int p0), .val (.int p1), .val (.int p2), .val (.int p3), .val (.int (0 : Int32)), .val (.int (own_b (¬ ((p0 &&& (2 : Int32)) = (0 : Int32))))), .val (.int (3 : Int32)), .val (.int mv), .val (.int nv), .val (.ref b113), .val (.int (own_b ((0 : Int32) < ((((0 : Int32) + (1 : Int32)) + (1 : Int32)) + (1 : Int32))))), .unset] [(.int mv), (.ref b113)])) _
          refine st138 _ ?_
          show Steps p.tables e below (T138.setTop (mkF m 150 #[.val (.int p0), .val (.int p1), .val (.int p2), .val (.int p3), .val (.int (0 : Int32)), .val (.int (own_b (¬ ((p0 &&& (2 : Int32)) = (0 : Int32))))), .val (.int (3 : Int32)), .val (.int mv), .val (.int nv), .val (.ref b113), .val (.int (own_b ((0 : Int32) < ((((0 : Int32) + (1 : Int32)) + (1 : Int32)) + (1 : Int32))))), .unset] [])) _
          refine XS.aload X138.here hx rfl (hb hby at_150) rfl rfl ?_
          show Steps p.tables e below (T138.setTop (mkF m 152 #[.val (.int p0), .val (.int p1), .val (.int p2), .val (.int p3), .val (.int (0 : Int32)), .val (.int (own_b (¬ ((p0 &&& (2 : Int32)) = (0 : Int32))))), .val (.int (3 : Int32)), .val (.int mv), .val (.int nv), .val (.ref b113), .val (.int (own_b ((0 : Int32) < ((((0 : Int32) + (1 : Int32)) + (1 : Int32)) + (1 : Int32))))), .unset] [(.ref b113)])) _
          refine XS.iload X138.here hx rfl (hb hby at_152) rfl  ?_
          show Steps p.tables e below (T138.setTop (mkF m 154 #[.val (.int p0), .val (.int p1), .val (.int p2), .val (.int p3), .val (.int (0 : Int32)), .val (.int (own_b (¬ ((p0 &&& (2 : Int32)) = (0 : Int32))))), .val (.int (3 : Int32)), .val (.int mv), .val (.int nv), .val (.ref b113), .val (.int (own_b ((0 : Int32) < ((((0 : Int32) + (1 : Int32)) + (1 : Int32)) + (1 : Int32))))), .unset] [(.int nv), (.ref b113)])) _
          refine st140 _ ?_
          show Steps p.tables e below (T140.setTop (mkF m 157 #[.val (.int p0), .val (.int p1), .val (.int p2), .val (.int p3), .val (.int (0 : Int32)), .val (.int (own_b (¬ ((p0 &&& (2 : Int32)) = (0 : Int32))))), .val (.int (3 : Int32)), .val (.int mv), .val (.int nv), .val (.ref b113), .val (.int (own_b ((0 : Int32) < ((((0 : Int32) + (1 : Int32)) + (1 : Int32)) + (1 : Int32))))), .unset] [])) _
          refine XS.aload X140.here hx rfl (hb hby at_157) rfl rfl ?_
          show Steps p.tables e below (T140.setTop (mkF m 159 #[.val (.int p0), .val (.int p1), .val (.int p2), .val (.int p3), .val (.int (0 : Int32)), .val (.int (own_b (¬ ((p0 &&& (2 : Int32)) = (0 : Int32))))), .val (.int (3 : Int32)), .val (.int mv), .val (.int nv), .val (.ref b113), .val (.int (own_b ((0 : Int32) < ((((0 : Int32) + (1 : Int32)) + (1 : Int32)) + (1 : Int32))))), .unset] [(.ref b113)])) _
          refine st143.trans ?_
          show Steps p.tables e below (T143.setTop (mkF m 162 #[.val (.int p0), .val (.int p1), .val (.int p2), .val (.int p3), .val (.int (0 : Int32)), .val (.int (own_b (¬ ((p0 &&& (2 : Int32)) = (0 : Int32))))), .val (.int (3 : Int32)), .val (.int mv), .val (.int nv), .val (.ref b113), .val (.int (own_b ((0 : Int32) < ((((0 : Int32) + (1 : Int32)) + (1 : Int32)) + (1 : Int32))))), .unset] [(.int (own_b ((own_pl ((0 : Int32) + mv) nv) < (own_ps ((0 : Int32) + mv) ((((0 : Int32) + (1 : Int32)) + (1 : Int32)) + (1 : Int32)) nv))))])) _
          refine XS.istore X143.here hx rfl (hb hby at_162) rfl (l' := #[.val (.int p0), .val (.int p1), .val (.int p2), .val (.int p3), .val (.int (0 : Int32)), .val (.int (own_b (¬ ((p0 &&& (2 : Int32)) = (0 : Int32))))), .val (.int (3 : Int32)), .val (.int mv), .val (.int nv), .val (.ref b113), .val (.int (own_b ((0 : Int32) < ((((0 : Int32) + (1 : Int32)) + (1 : Int32)) + (1 : Int32))))), .val (.int (own_b ((own_pl ((0 : Int32) + mv) nv) < (own_ps ((0 : Int32) + mv) ((((0 : Int32) + (1 : Int32)) + (1 : Int32)) + (1 : Int32)) nv))))]) rfl ?_
          show Steps p.tables e below (T143.setTop (mkF m 164 #[.val (.int p0), .val (.int p1), .val (.int p2), .val (.int p3), .val (.int (0 : Int32)), .val (.int (own_b (¬ ((p0 &&& (2 : Int32)) = (0 : Int32))))), .val (.int (3 : Int32)), .val (.int mv), .val (.int nv), .val (.ref b113), .val (.int (own_b ((0 : Int32) < ((((0 : Int32) + (1 : Int32)) + (1 : Int32)) + (1 : Int32))))), .val (.int (own_b ((own_pl ((0 : Int32) + mv) nv) < (own_ps ((0 : Int32) + mv) ((((0 : Int32) + (1 : Int32)) + (1 : Int32)) + (1 : Int32)) nv))))] [])) _
          refine XS.iload X143.here hx rfl (hb hby at_164) rfl  ?_
          show Steps p.tables e below (T143.setTop (mkF m 166 #[.val (.int p0), .val (.int p1), .val (.int p2), .val (.int p3), .val (.int (0 : Int32)), .val (.int (own_b (¬ ((p0 &&& (2 : Int32)) = (0 : Int32))))), .val (.int (3 : Int32)), .val (.int mv), .val (.int nv), .val (.ref b113), .val (.int (own_b ((0 : Int32) < ((((0 : Int32) + (1 : Int32)) + (1 : Int32)) + (1 : Int32))))), .val (.int (own_b ((own_pl ((0 : Int32) + mv) nv) < (own_ps ((0 : Int32) + mv) ((((0 : Int32) + (1 : Int32)) + (1 : Int32)) + (1 : Int32)) nv))))] [(.int (own_b ((0 : Int32) < ((((0 : Int32) + (1 : Int32)) + (1 : Int32)) + (1 : Int32)))))])) _
          refine XS.iload X143.here hx rfl (hb hby at_166) rfl  ?_
          show Steps p.tables e below (T143.setTop (mkF m 168 #[.val (.int p0), .val (.int p1), .val (.int p2), .val (.int p3), .val (.int (0 : Int32)), .val (.int (own_b (¬ ((p0 &&& (2 : Int32)) = (0 : Int32))))), .val (.int (3 : Int32)), .val (.int mv), .val (.int nv), .val (.ref b113), .val (.int (own_b ((0 : Int32) < ((((0 : Int32) + (1 : Int32)) + (1 : Int32)) + (1 : Int32))))), .val (.int (own_b ((own_pl ((0 : Int32) + mv) nv) < (own_ps ((0 : Int32) + mv) ((((0 : Int32) + (1 : Int32)) + (1 : Int32)) + (1 : Int32)) nv))))] [(.int (3 : Int32)), (.int (own_b ((0 : Int32) < ((((0 : Int32) + (1 : Int32)) + (1 : Int32)) + (1 : Int32)))))])) _
          refine XS.ifNo X143.here hx rfl (hb hby at_168) rfl ((if0 _ _).trans (tlt (by decide)).2.2.2) ?_
          show Steps p.tables e below (T143.setTop (mkF m 171 #[.val (.int p0), .val (.int p1), .val (.int p2), .val (.int p3), .val (.int (0 : Int32)), .val (.int (own_b (¬ ((p0 &&& (2 : Int32)) = (0 : Int32))))), .val (.int (3 : Int32)), .val (.int mv), .val (.int nv), .val (.ref b113), .val (.int (own_b ((0 : Int32) < ((((0 : Int32) + (1 : Int32)) + (1 : Int32)) + (1 : Int32))))), .val (.int (own_b ((own_pl ((0 : Int32) + mv) nv) < (own_ps ((0 : Int32) + mv) ((((0 : Int32) + (1 : Int32)) + (1 : Int32)) + (1 : Int32)) nv))))] [(.int (own_b ((0 : Int32) < ((((0 : Int32) + (1 : Int32)) + (1 : Int32)) + (1 : Int32)))))])) _
          refine XS.iconst X143.here hx rfl (hb hby at_171) ?_
          show Steps p.tables e below (T143.setTop (mkF m 172 #[.val (.int p0), .val (.int p1), .val (.int p2), .val (.int p3), .val (.int (0 : Int32)), .val (.int (own_b (¬ ((p0 &&& (2 : Int32)) = (0 : Int32))))), .val (.int (3 : Int32)), .val (.int mv), .val (.int nv), .val (.ref b113), .val (.int (own_b ((0 : Int32) < ((((0 : Int32) + (1 : Int32)) + (1 : Int32)) + (1 : Int32))))), .val (.int (own_b ((own_pl ((0 : Int32) + mv) nv) < (own_ps ((0 : Int32) + mv) ((((0 : Int32) + (1 : Int32)) + (1 : Int32)) + (1 : Int32)) nv))))] [(.int (1 : Int32)), (.int (own_b ((0 : Int32) < ((((0 : Int32) + (1 : Int32)) + (1 : Int32)) + (1 : Int32)))))])) _
          refine XS.goto X143.here hx rfl (pc0 := 172) (pc' := 176) rfl (hb hby at_172) (by decide) (by decide) ?_
          show Steps p.tables e below (T143.setTop (mkF m 176 #[.val (.int p0), .val (.int p1), .val (.int p2), .val (.int p3), .val (.int (0 : Int32)), .val (.int (own_b (¬ ((p0 &&& (2 : Int32)) = (0 : Int32))))), .val (.int (3 : Int32)), .val (.int mv), .val (.int nv), .val (.ref b113), .val (.int (own_b ((0 : Int32) < ((((0 : Int32) + (1 : Int32)) + (1 : Int32)) + (1 : Int32))))), .val (.int (own_b ((own_pl ((0 : Int32) + mv) nv) < (own_ps ((0 : Int32) + mv) ((((0 : Int32) + (1 : Int32)) + (1 : Int32)) + (1 : Int32)) nv))))] [(.int (1 : Int32)), (.int (own_b ((0 : Int32) < ((((0 : Int32) + (1 : Int32)) + (1 : Int32)) + (1 : Int32)))))])) _
          refine XS.icmpNo X143.here hx rfl (hb hby at_176) rfl (teq (by decide)).2 ?_
          show Steps p.tables e below (T143.setTop (mkF m 179 #[.val (.int p0), .val (.int p1), .val (.int p2), .val (.int p3), .val (.int (0 : Int32)), .val (.int (own_b (¬ ((p0 &&& (2 : Int32)) = (0 : Int32))))), .val (.int (3 : Int32)), .val (.int mv), .val (.int nv), .val (.ref b113), .val (.int (own_b ((0 : Int32) < ((((0 : Int32) + (1 : Int32)) + (1 : Int32)) + (1 : Int32))))), .val (.int (own_b ((own_pl ((0 : Int32) + mv) nv) < (own_ps ((0 : Int32) + mv) ((((0 : Int32) + (1 : Int32)) + (1 : Int32)) + (1 : Int32)) nv))))] [])) _
          refine XS.iload X143.here hx rfl (hb hby at_179) rfl  ?_
          show Steps p.tables e below (T143.setTop (mkF m 181 #[.val (.int p0), .val (.int p1), .val (.int p2), .val (.int p3), .val (.int (0 : Int32)), .val (.int (own_b (¬ ((p0 &&& (2 : Int32)) = (0 : Int32))))), .val (.int (3 : Int32)), .val (.int mv), .val (.int nv), .val (.ref b113), .val (.int (own_b ((0 : Int32) < ((((0 : Int32) + (1 : Int32)) + (1 : Int32)) + (1 : Int32))))), .val (.int (own_b ((own_pl ((0 : Int32) + mv) nv) < (own_ps ((0 : Int32) + mv) ((((0 : Int32) + (1 : Int32)) + (1 : Int32)) + (1 : Int32)) nv))))] [(.int (own_b ((own_pl ((0 : Int32) + mv) nv) < (own_ps ((0 : Int32) + mv) ((((0 : Int32) + (1 : Int32)) + (1 : Int32)) + (1 : Int32)) nv))))])) _
          refine XS.iload X143.here hx rfl (hb hby at_181) rfl  ?_
          show Steps p.tables e below (T143.setTop (mkF m 183 #[.val (.int p0), .val (.int p1), .val (.int p2), .val (.int p3), .val (.int (0 : Int32)), .val (.int (own_b (¬ ((p0 &&& (2 : Int32)) = (0 : Int32))))), .val (.int (3 : Int32)), .val (.int mv), .val (.int nv), .val (.ref b113), .val (.int (own_b ((0 : Int32) < ((((0 : Int32) + (1 : Int32)) + (1 : Int32)) + (1 : Int32))))), .val (.int (own_b ((own_pl ((0 : Int32) + mv) nv) < (own_ps ((0 : Int32) + mv) ((((0 : Int32) + (1 : Int32)) + (1 : Int32)) + (1 : Int32)) nv))))] [(.int (3 : Int32)), (.int (own_b ((own_pl ((0 : Int32) + mv) nv) < (own_ps ((0 : Int32) + mv) ((((0 : Int32) + (1 : Int32)) + (1 : Int32)) + (1 : Int32)) nv))))])) _
          refine XS.iload X143.here hx rfl (hb hby at_183) rfl  ?_
          show Steps p.tables e below (T143.setTop (mkF m 185 #[.val (.int p0), .val (.int p1), .val (.int p2), .val (.int p3), .val (.int (0 : Int32)), .val (.int (own_b (¬ ((p0 &&& (2 : Int32)) = (0 : Int32))))), .val (.int (3 : Int32)), .val (.int mv), .val (.int nv), .val (.ref b113), .val (.int (own_b ((0 : Int32) < ((((0 : Int32) + (1 : Int32)) + (1 : Int32)) + (1 : Int32))))), .val (.int (own_b ((own_pl ((0 : Int32) + mv) nv) < (own_ps ((0 : Int32) + mv) ((((0 : Int32) + (1 : Int32)) + (1 : Int32)) + (1 : Int32)) nv))))] [(.int mv), (.int (3 : Int32)), (.int (own_b ((own_pl ((0 : Int32) + mv) nv) < (own_ps ((0 : Int32) + mv) ((((0 : Int32) + (1 : Int32)) + (1 : Int32)) + (1 : Int32)) nv))))])) _
          refine XS.isub X143.here hx rfl (hb hby at_185) rfl ?_
          show Steps p.tables e below (T143.setTop (mkF m 186 #[.val (.int p0), .val (.int p1), .val (.int p2), .val (.int p3), .val (.int (0 : Int32)), .val (.int (own_b (¬ ((p0 &&& (2 : Int32)) = (0 : Int32))))), .val (.int (3 : Int32)), .val (.int mv), .val (.int nv), .val (.ref b113), .val (.int (own_b ((0 : Int32) < ((((0 : Int32) + (1 : Int32)) + (1 : Int32)) + (1 : Int32))))), .val (.int (own_b ((own_pl ((0 : Int32) + mv) nv) < (own_ps ((0 : Int32) + mv) ((((0 : Int32) + (1 : Int32)) + (1 : Int32)) + (1 : Int32)) nv))))] [(.int ((3 : Int32) - mv)), (.int (own_b ((own_pl ((0 : Int32) + mv) nv) < (own_ps ((0 : Int32) + mv) ((((0 : Int32) + (1 : Int32)) + (1 : Int32)) + (1 : Int32)) nv))))])) _
          refine XS.iload X143.here hx rfl (hb hby at_186) rfl  ?_
          show Steps p.tables e below (T143.setTop (mkF m 188 #[.val (.int p0), .val (.int p1), .val (.int p2), .val (.int p3), .val (.int (0 : Int32)), .val (.int (own_b (¬ ((p0 &&& (2 : Int32)) = (0 : Int32))))), .val (.int (3 : Int32)), .val (.int mv), .val (.int nv), .val (.ref b113), .val (.int (own_b ((0 : Int32) < ((((0 : Int32) + (1 : Int32)) + (1 : Int32)) + (1 : Int32))))), .val (.int (own_b ((own_pl ((0 : Int32) + mv) nv) < (own_ps ((0 : Int32) + mv) ((((0 : Int32) + (1 : Int32)) + (1 : Int32)) + (1 : Int32)) nv))))] [(.int nv), (.int ((3 : Int32) - mv)), (.int (own_b ((own_pl ((0 : Int32) + mv) nv) < (own_ps ((0 : Int32) + mv) ((((0 : Int32) + (1 : Int32)) + (1 : Int32)) + (1 : Int32)) nv))))])) _
          refine XS.isub X143.here hx rfl (hb hby at_188) rfl ?_
          exact kZ)
        have pre146 : ∀ tZ, Steps p.tables e below (T143.setTop (mkF m 197 #[.val (.int p0), .val (.int p1), .val (.int p2), .val (.int p3), .val (.int (0 : Int32)), .val (.int (own_b (¬ ((p0 &&& (2 : Int32)) = (0 : Int32))))), .val (.int (3 : Int32)), .val (.int mv), .val (.int nv), .val (.ref b113), .val (.int (own_b ((0 : Int32) < ((((0 : Int32) + (1 : Int32)) + (1 : Int32)) + (1 : Int32))))), .val (.int (own_b ((own_pl ((0 : Int32) + mv) nv) < (own_ps ((0 : Int32) + mv) ((((0 : Int32) + (1 : Int32)) + (1 : Int32)) + (1 : Int32)) nv))))] [(.int (own_b ((0 : Int32) < (((3 : Int32) - mv) - nv)))), (.int (own_b ((own_pl ((0 : Int32) + mv) nv) < (own_ps ((0 : Int32) + mv) ((((0 : Int32) + (1 : Int32)) + (1 : Int32)) + (1 : Int32)) nv))))])) tZ → Steps p.tables e below (s₁.setTop (entryFrame m #[(.int p0), (.int p1), (.int p2), (.int p3)] maxLocals)) tZ := fun tZ kZ => pre144 tZ (by
          by_cases hc145 : (0 : Int32) < (((3 : Int32) - mv) - nv)
          ·  -- yes
            show Steps p.tables e below (T143.setTop (mkF m 189 #[.val (.int p0), .val (.int p1), .val (.int p2), .val (.int p3), .val (.int (0 : Int32)), .val (.int (own_b (¬ ((p0 &&& (2 : Int32)) = (0 : Int32))))), .val (.int (3 : Int32)), .val (.int mv), .val (.int nv), .val (.ref b113), .val (.int (own_b ((0 : Int32) < ((((0 : Int32) + (1 : Int32)) + (1 : Int32)) + (1 : Int32))))), .val (.int (own_b ((own_pl ((0 : Int32) + mv) nv) < (own_ps ((0 : Int32) + mv) ((((0 : Int32) + (1 : Int32)) + (1 : Int32)) + (1 : Int32)) nv))))] [(.int (((3 : Int32) - mv) - nv)), (.int (own_b ((own_pl ((0 : Int32) + mv) nv) < (own_ps ((0 : Int32) + mv) ((((0 : Int32) + (1 : Int32)) + (1 : Int32)) + (1 : Int32)) nv))))])) _
            refine XS.ifNo X143.here hx rfl (hb hby at_189) rfl ((if0 _ _).trans (tlt hc145).2.2.2) ?_
            show Steps p.tables e below (T143.setTop (mkF m 192 #[.val (.int p0), .val (.int p1), .val (.int p2), .val (.int p3), .val (.int (0 : Int32)), .val (.int (own_b (¬ ((p0 &&& (2 : Int32)) = (0 : Int32))))), .val (.int (3 : Int32)), .val (.int mv), .val (.int nv), .val (.ref b113), .val (.int (own_b ((0 : Int32) < ((((0 : Int32) + (1 : Int32)) + (1 : Int32)) + (1 : Int32))))), .val (.int (own_b ((own_pl ((0 : Int32) + mv) nv) < (own_ps ((0 : Int32) + mv) ((((0 : Int32) + (1 : Int32)) + (1 : Int32)) + (1 : Int32)) nv))))] [(.int (own_b ((own_pl ((0 : Int32) + mv) nv) < (own_ps ((0 : Int32) + mv) ((((0 : Int32) + (1 : Int32)) + (1 : Int32)) + (1 : Int32)) nv))))])) _
            refine XS.iconst X143.here hx rfl (hb hby at_192) ?_
            show Steps p.tables e below (T143.setTop (mkF m 193 #[.val (.int p0), .val (.int p1), .val (.int p2), .val (.int p3), .val (.int (0 : Int32)), .val (.int (own_b (¬ ((p0 &&& (2 : Int32)) = (0 : Int32))))), .val (.int (3 : Int32)), .val (.int mv), .val (.int nv), .val (.ref b113), .val (.int (own_b ((0 : Int32) < ((((0 : Int32) + (1 : Int32)) + (1 : Int32)) + (1 : Int32))))), .val (.int (own_b ((own_pl ((0 : Int32) + mv) nv) < (own_ps ((0 : Int32) + mv) ((((0 : Int32) + (1 : Int32)) + (1 : Int32)) + (1 : Int32)) nv))))] [(.int (1 : Int32)), (.int (own_b ((own_pl ((0 : Int32) + mv) nv) < (own_ps ((0 : Int32) + mv) ((((0 : Int32) + (1 : Int32)) + (1 : Int32)) + (1 : Int32)) nv))))])) _
            refine XS.goto X143.here hx rfl (pc0 := 193) (pc' := 197) rfl (hb hby at_193) (by decide) (by decide) ?_
            have ekZ : (own_b ((0 : Int32) < (((3 : Int32) - mv) - nv))) = (1 : Int32) := by first | (simp only [own_b, eq_true hc145, and_true, true_and, and_false, false_and, or_true, true_or, or_false, false_or, not_true_eq_false, not_false_eq_true, if_true, if_false, reduceIte]; done) | (simp [own_b, hc145]; done)
            rw [ekZ] at kZ
            exact kZ
          ·  -- no
            show Steps p.tables e below (T143.setTop (mkF m 189 #[.val (.int p0), .val (.int p1), .val (.int p2), .val (.int p3), .val (.int (0 : Int32)), .val (.int (own_b (¬ ((p0 &&& (2 : Int32)) = (0 : Int32))))), .val (.int (3 : Int32)), .val (.int mv), .val (.int nv), .val (.ref b113), .val (.int (own_b ((0 : Int32) < ((((0 : Int32) + (1 : Int32)) + (1 : Int32)) + (1 : Int32))))), .val (.int (own_b ((own_pl ((0 : Int32) + mv) nv) < (own_ps ((0 : Int32) + mv) ((((0 : Int32) + (1 : Int32)) + (1 : Int32)) + (1 : Int32)) nv))))] [(.int (((3 : Int32) - mv) - nv)), (.int (own_b ((own_pl ((0 : Int32) + mv) nv) < (own_ps ((0 : Int32) + mv) ((((0 : Int32) + (1 : Int32)) + (1 : Int32)) + (1 : Int32)) nv))))])) _
            refine XS.ifYes X143.here hx rfl (pc0 := 189) (pc' := 196) rfl (hb hby at_189) rfl ((if0 _ _).trans (flt hc145).2.2.2) (by decide) (by decide) ?_
            show Steps p.tables e below (T143.setTop (mkF m 196 #[.val (.int p0), .val (.int p1), .val (.int p2), .val (.int p3), .val (.int (0 : Int32)), .val (.int (own_b (¬ ((p0 &&& (2 : Int32)) = (0 : Int32))))), .val (.int (3 : Int32)), .val (.int mv), .val (.int nv), .val (.ref b113), .val (.int (own_b ((0 : Int32) < ((((0 : Int32) + (1 : Int32)) + (1 : Int32)) + (1 : Int32))))), .val (.int (own_b ((own_pl ((0 : Int32) + mv) nv) < (own_ps ((0 : Int32) + mv) ((((0 : Int32) + (1 : Int32)) + (1 : Int32)) + (1 : Int32)) nv))))] [(.int (own_b ((own_pl ((0 : Int32) + mv) nv) < (own_ps ((0 : Int32) + mv) ((((0 : Int32) + (1 : Int32)) + (1 : Int32)) + (1 : Int32)) nv))))])) _
            refine XS.iconst X143.here hx rfl (hb hby at_196) ?_
            have ekZ : (own_b ((0 : Int32) < (((3 : Int32) - mv) - nv))) = (0 : Int32) := by first | (simp only [own_b, eq_false hc145, and_true, true_and, and_false, false_and, or_true, true_or, or_false, false_or, not_true_eq_false, not_false_eq_true, if_true, if_false, reduceIte]; done) | (simp [own_b, hc145]; done)
            rw [ekZ] at kZ
            exact kZ)
        obtain ⟨fsZ, hrZ, hrun, hended, hW, hsame⟩ := X143.leave (v := some (.int (1 : Int32))) (fun h => by rw [Bd.returns] at h; cases h)
        refine ⟨_, _, pre146 _ ?_, hrun, hended, _, _, rfl, ?_, ⟨_, rfl⟩, hW, hsame.mono (by decide) (by decide)⟩
        · show Steps p.tables e below (T143.setTop (mkF m 197 #[.val (.int p0), .val (.int p1), .val (.int p2), .val (.int p3), .val (.int (0 : Int32)), .val (.int (own_b (¬ ((p0 &&& (2 : Int32)) = (0 : Int32))))), .val (.int (3 : Int32)), .val (.int mv), .val (.int nv), .val (.ref b113), .val (.int (own_b ((0 : Int32) < ((((0 : Int32) + (1 : Int32)) + (1 : Int32)) + (1 : Int32))))), .val (.int (own_b ((own_pl ((0 : Int32) + mv) nv) < (own_ps ((0 : Int32) + mv) ((((0 : Int32) + (1 : Int32)) + (1 : Int32)) + (1 : Int32)) nv))))] [(.int (own_b ((0 : Int32) < (((3 : Int32) - mv) - nv)))), (.int (own_b ((own_pl ((0 : Int32) + mv) nv) < (own_ps ((0 : Int32) + mv) ((((0 : Int32) + (1 : Int32)) + (1 : Int32)) + (1 : Int32)) nv))))])) _
          refine XS.icmpNo X143.here hx rfl (hb hby at_197) rfl (teq (own_fin_m (by decide) hm4 hn4 hm3.2.2 hn3.2.2)).2 ?_
          show Steps p.tables e below (T143.setTop (mkF m 200 #[.val (.int p0), .val (.int p1), .val (.int p2), .val (.int p3), .val (.int (0 : Int32)), .val (.int (own_b (¬ ((p0 &&& (2 : Int32)) = (0 : Int32))))), .val (.int (3 : Int32)), .val (.int mv), .val (.int nv), .val (.ref b113), .val (.int (own_b ((0 : Int32) < ((((0 : Int32) + (1 : Int32)) + (1 : Int32)) + (1 : Int32))))), .val (.int (own_b ((own_pl ((0 : Int32) + mv) nv) < (own_ps ((0 : Int32) + mv) ((((0 : Int32) + (1 : Int32)) + (1 : Int32)) + (1 : Int32)) nv))))] [])) _
          refine XS.iconst X143.here hx rfl (hb hby at_200) ?_
          show Steps p.tables e below (T143.setTop (mkF m 201 #[.val (.int p0), .val (.int p1), .val (.int p2), .val (.int p3), .val (.int (0 : Int32)), .val (.int (own_b (¬ ((p0 &&& (2 : Int32)) = (0 : Int32))))), .val (.int (3 : Int32)), .val (.int mv), .val (.int nv), .val (.ref b113), .val (.int (own_b ((0 : Int32) < ((((0 : Int32) + (1 : Int32)) + (1 : Int32)) + (1 : Int32))))), .val (.int (own_b ((own_pl ((0 : Int32) + mv) nv) < (own_ps ((0 : Int32) + mv) ((((0 : Int32) + (1 : Int32)) + (1 : Int32)) + (1 : Int32)) nv))))] [(.int (1 : Int32))])) _
          refine XS.goto X143.here hx rfl (pc0 := 201) (pc' := 205) rfl (hb hby at_201) (by decide) (by decide) ?_
          show Steps p.tables e below (T143.setTop (mkF m 205 #[.val (.int p0), .val (.int p1), .val (.int p2), .val (.int p3), .val (.int (0 : Int32)), .val (.int (own_b (¬ ((p0 &&& (2 : Int32)) = (0 : Int32))))), .val (.int (3 : Int32)), .val (.int mv), .val (.int nv), .val (.ref b113), .val (.int (own_b ((0 : Int32) < ((((0 : Int32) + (1 : Int32)) + (1 : Int32)) + (1 : Int32))))), .val (.int (own_b ((own_pl ((0 : Int32) + mv) nv) < (own_ps ((0 : Int32) + mv) ((((0 : Int32) + (1 : Int32)) + (1 : Int32)) + (1 : Int32)) nv))))] [(.int (1 : Int32))])) _
          exact retN X143 hx (t := .boolean) Bd.returns (by simp) (hb hby at_205) hrZ
        · show Q0 Z p0 p1 p2 p3 h0 n0 _ T143.heap _
          rw [e143]
          exact ⟨rfl, N143⟩
  ·  -- no
    have pre147 : ∀ tZ, Steps p.tables e below (s₁.setTop (mkF m 16 #[.val (.int p0), .val (.int p1), .val (.int p2), .val (.int p3), .val (.int (1 : Int32)), .unset, .unset, .unset, .unset, .unset, .unset, .unset] [(.int (p0 &&& (2 : Int32)))])) tZ → Steps p.tables e below (s₁.setTop (entryFrame m #[(.int p0), (.int p1), (.int p2), (.int p3)] maxLocals)) tZ := fun tZ kZ => pre1 tZ (by
      show Steps p.tables e below (s₁.setTop (mkF m 3 #[.val (.int p0), .val (.int p1), .val (.int p2), .val (.int p3), .unset, .unset, .unset, .unset, .unset, .unset, .unset, .unset] [(.int (p0 &&& (1 : Int32)))])) _
      refine XS.ifNo X0.here hx rfl (hb hby at_3) rfl ((if0 _ _).trans (feq hc2).1) ?_
      show Steps p.tables e below (s₁.setTop (mkF m 6 #[.val (.int p0), .val (.int p1), .val (.int p2), .val (.int p3), .unset, .unset, .unset, .unset, .unset, .unset, .unset, .unset] [])) _
      refine XS.iconst X0.here hx rfl (hb hby at_6) ?_
      show Steps p.tables e below (s₁.setTop (mkF m 7 #[.val (.int p0), .val (.int p1), .val (.int p2), .val (.int p3), .unset, .unset, .unset, .unset, .unset, .unset, .unset, .unset] [(.int (1 : Int32))])) _
      refine XS.goto X0.here hx rfl (pc0 := 7) (pc' := 11) rfl (hb hby at_7) (by decide) (by decide) ?_
      show Steps p.tables e below (s₁.setTop (mkF m 11 #[.val (.int p0), .val (.int p1), .val (.int p2), .val (.int p3), .unset, .unset, .unset, .unset, .unset, .unset, .unset, .unset] [(.int (1 : Int32))])) _
      refine XS.istore X0.here hx rfl (hb hby at_11) rfl (l' := #[.val (.int p0), .val (.int p1), .val (.int p2), .val (.int p3), .val (.int (1 : Int32)), .unset, .unset, .unset, .unset, .unset, .unset, .unset]) rfl ?_
      show Steps p.tables e below (s₁.setTop (mkF m 13 #[.val (.int p0), .val (.int p1), .val (.int p2), .val (.int p3), .val (.int (1 : Int32)), .unset, .unset, .unset, .unset, .unset, .unset, .unset] [])) _
      refine XS.iloadN X0.here hx rfl (hb hby at_13) rfl  ?_
      show Steps p.tables e below (s₁.setTop (mkF m 14 #[.val (.int p0), .val (.int p1), .val (.int p2), .val (.int p3), .val (.int (1 : Int32)), .unset, .unset, .unset, .unset, .unset, .unset, .unset] [(.int p0)])) _
      refine XS.iconst X0.here hx rfl (hb hby at_14) ?_
      show Steps p.tables e below (s₁.setTop (mkF m 15 #[.val (.int p0), .val (.int p1), .val (.int p2), .val (.int p3), .val (.int (1 : Int32)), .unset, .unset, .unset, .unset, .unset, .unset, .unset] [(.int (2 : Int32)), (.int p0)])) _
      refine XS.iand X0.here hx rfl (hb hby at_15) rfl ?_
      exact kZ)
    have pre149 : ∀ tZ, Steps p.tables e below (s₁.setTop (mkF m 24 #[.val (.int p0), .val (.int p1), .val (.int p2), .val (.int p3), .val (.int (1 : Int32)), .unset, .unset, .unset, .unset, .unset, .unset, .unset] [(.int (own_b (¬ ((p0 &&& (2 : Int32)) = (0 : Int32)))))])) tZ → Steps p.tables e below (s₁.setTop (entryFrame m #[(.int p0), (.int p1), (.int p2), (.int p3)] maxLocals)) tZ := fun tZ kZ => pre147 tZ (by
      by_cases hc148 : (p0 &&& (2 : Int32)) = (0 : Int32)
      ·  -- yes
        show Steps p.tables e below (s₁.setTop (mkF m 16 #[.val (.int p0), .val (.int p1), .val (.int p2), .val (.int p3), .val (.int (1 : Int32)), .unset, .unset, .unset, .unset, .unset, .unset, .unset] [(.int (p0 &&& (2 : Int32)))])) _
        refine XS.ifYes X0.here hx rfl (pc0 := 16) (pc' := 23) rfl (hb hby at_16) rfl ((if0 _ _).trans (teq hc148).1) (by decide) (by decide) ?_
        show Steps p.tables e below (s₁.setTop (mkF m 23 #[.val (.int p0), .val (.int p1), .val (.int p2), .val (.int p3), .val (.int (1 : Int32)), .unset, .unset, .unset, .unset, .unset, .unset, .unset] [])) _
        refine XS.iconst X0.here hx rfl (hb hby at_23) ?_
        have ekZ : (own_b (¬ ((p0 &&& (2 : Int32)) = (0 : Int32)))) = (0 : Int32) := by first | (simp only [own_b, eq_true hc148, and_true, true_and, and_false, false_and, or_true, true_or, or_false, false_or, not_true_eq_false, not_false_eq_true, if_true, if_false, reduceIte]; done) | (simp [own_b, hc148]; done)
        rw [ekZ] at kZ
        exact kZ
      ·  -- no
        show Steps p.tables e below (s₁.setTop (mkF m 16 #[.val (.int p0), .val (.int p1), .val (.int p2), .val (.int p3), .val (.int (1 : Int32)), .unset, .unset, .unset, .unset, .unset, .unset, .unset] [(.int (p0 &&& (2 : Int32)))])) _
        refine XS.ifNo X0.here hx rfl (hb hby at_16) rfl ((if0 _ _).trans (feq hc148).1) ?_
        show Steps p.tables e below (s₁.setTop (mkF m 19 #[.val (.int p0), .val (.int p1), .val (.int p2), .val (.int p3), .val (.int (1 : Int32)), .unset, .unset, .unset, .unset, .unset, .unset, .unset] [])) _
        refine XS.iconst X0.here hx rfl (hb hby at_19) ?_
        show Steps p.tables e below (s₁.setTop (mkF m 20 #[.val (.int p0), .val (.int p1), .val (.int p2), .val (.int p3), .val (.int (1 : Int32)), .unset, .unset, .unset, .unset, .unset, .unset, .unset] [(.int (1 : Int32))])) _
        refine XS.goto X0.here hx rfl (pc0 := 20) (pc' := 24) rfl (hb hby at_20) (by decide) (by decide) ?_
        have ekZ : (own_b (¬ ((p0 &&& (2 : Int32)) = (0 : Int32)))) = (1 : Int32) := by first | (simp only [own_b, eq_false hc148, and_true, true_and, and_false, false_and, or_true, true_or, or_false, false_or, not_true_eq_false, not_false_eq_true, if_true, if_false, reduceIte]; done) | (simp [own_b, hc148]; done)
        rw [ekZ] at kZ
        exact kZ)
    have pre150 : ∀ tZ, Steps p.tables e below (s₁.setTop (mkF m 31 #[.val (.int p0), .val (.int p1), .val (.int p2), .val (.int p3), .val (.int (1 : Int32)), .val (.int (own_b (¬ ((p0 &&& (2 : Int32)) = (0 : Int32))))), .val (.int (p1 &&& (3 : Int32))), .unset, .unset, .unset, .unset, .unset] [])) tZ → Steps p.tables e below (s₁.setTop (entryFrame m #[(.int p0), (.int p1), (.int p2), (.int p3)] maxLocals)) tZ := fun tZ kZ => pre149 tZ (by
      show Steps p.tables e below (s₁.setTop (mkF m 24 #[.val (.int p0), .val (.int p1), .val (.int p2), .val (.int p3), .val (.int (1 : Int32)), .unset, .unset, .unset, .unset, .unset, .unset, .unset] [(.int (own_b (¬ ((p0 &&& (2 : Int32)) = (0 : Int32)))))])) _
      refine XS.istore X0.here hx rfl (hb hby at_24) rfl (l' := #[.val (.int p0), .val (.int p1), .val (.int p2), .val (.int p3), .val (.int (1 : Int32)), .val (.int (own_b (¬ ((p0 &&& (2 : Int32)) = (0 : Int32))))), .unset, .unset, .unset, .unset, .unset, .unset]) rfl ?_
      show Steps p.tables e below (s₁.setTop (mkF m 26 #[.val (.int p0), .val (.int p1), .val (.int p2), .val (.int p3), .val (.int (1 : Int32)), .val (.int (own_b (¬ ((p0 &&& (2 : Int32)) = (0 : Int32))))), .unset, .unset, .unset, .unset, .unset, .unset] [])) _
      refine XS.iloadN X0.here hx rfl (hb hby at_26) rfl  ?_
      show Steps p.tables e below (s₁.setTop (mkF m 27 #[.val (.int p0), .val (.int p1), .val (.int p2), .val (.int p3), .val (.int (1 : Int32)), .val (.int (own_b (¬ ((p0 &&& (2 : Int32)) = (0 : Int32))))), .unset, .unset, .unset, .unset, .unset, .unset] [(.int p1)])) _
      refine XS.iconst X0.here hx rfl (hb hby at_27) ?_
      show Steps p.tables e below (s₁.setTop (mkF m 28 #[.val (.int p0), .val (.int p1), .val (.int p2), .val (.int p3), .val (.int (1 : Int32)), .val (.int (own_b (¬ ((p0 &&& (2 : Int32)) = (0 : Int32))))), .unset, .unset, .unset, .unset, .unset, .unset] [(.int (3 : Int32)), (.int p1)])) _
      refine XS.iand X0.here hx rfl (hb hby at_28) rfl ?_
      show Steps p.tables e below (s₁.setTop (mkF m 29 #[.val (.int p0), .val (.int p1), .val (.int p2), .val (.int p3), .val (.int (1 : Int32)), .val (.int (own_b (¬ ((p0 &&& (2 : Int32)) = (0 : Int32))))), .unset, .unset, .unset, .unset, .unset, .unset] [(.int (p1 &&& (3 : Int32)))])) _
      refine XS.istore X0.here hx rfl (hb hby at_29) rfl (l' := #[.val (.int p0), .val (.int p1), .val (.int p2), .val (.int p3), .val (.int (1 : Int32)), .val (.int (own_b (¬ ((p0 &&& (2 : Int32)) = (0 : Int32))))), .val (.int (p1 &&& (3 : Int32))), .unset, .unset, .unset, .unset, .unset]) rfl ?_
      exact kZ)
    obtain ⟨av, hav⟩ : ∃ z, z = (p1 &&& (3 : Int32)) := ⟨_, rfl⟩
    rw [← hav] at pre150
    rcases own_a4 hav with rfl | rfl | rfl | rfl
    ·  -- a = 0
      obtain ⟨_, _, ⟨T151, L151, k151, n151⟩, -, X151, ⟨Lc151, hQ151, l151, y151, z151⟩, st151⟩ := Jvm.LawKit.callS X0 hx (y := (⟨"java/lang/Math", "min", "(II)I"⟩ : MethodName)) hown (mvT hZ (ow hw 1 rfl)) (mvT hZ (ow hw 2 rfl)) (mvT hZ (ow hw 3 rfl)) (mvT hZ (ow hw 4 rfl)) (by decide) (backOf (W := 0) (rm1 l Z a0 hw [] ((p2 &&& (2147483647 : Int32)) % (3 : Int32)) (0 : Int32) h0 n0 Z0 ) hZ (ow hw 4 rfl) (ow hw 3 rfl) (by decide) (by decide)) (g := (mkF m 39 #[.val (.int p0), .val (.int p1), .val (.int p2), .val (.int p3), .val (.int (1 : Int32)), .val (.int (own_b (¬ ((p0 &&& (2 : Int32)) = (0 : Int32))))), .val (.int (0 : Int32)), .unset, .unset, .unset, .unset, .unset] [(.int (0 : Int32)), (.int ((p2 &&& (2147483647 : Int32)) % (3 : Int32)))])) rfl (by rw [hml]; rfl) (argsL := [(.int ((p2 &&& (2147483647 : Int32)) % (3 : Int32))), (.int (0 : Int32))]) (rest := []) (lenOf pd6 rfl) rfl (by show 2 * 0 + _ ≤ _; exact Nat.le_of_eq rfl) (hb hby at_39) (fun _ _ => ⟨rfl, e0, (by decide : 0 + 0 ≤ _), (by decide : 0 + 0 ≤ _)⟩)
      dsimp only [Pt.U, Pt.locs, Pt.cells, Pt.slots] at X151 l151 y151 z151 st151 hQ151
      subst l151 y151 z151
      obtain ⟨rfl, N151q, e151⟩ := hQ151
      have N151 := Fr.app N0 N151q
      have pre152 : ∀ tZ, Steps p.tables e below (T151.setTop (mkF m 44 #[.val (.int p0), .val (.int p1), .val (.int p2), .val (.int p3), .val (.int (1 : Int32)), .val (.int (own_b (¬ ((p0 &&& (2 : Int32)) = (0 : Int32))))), .val (.int (0 : Int32)), .val (.int (if (0 : Int32) < ((p2 &&& (2147483647 : Int32)) % (3 : Int32)) then (0 : Int32) else ((p2 &&& (2147483647 : Int32)) % (3 : Int32)))), .unset, .unset, .unset, .unset] [])) tZ → Steps p.tables e below (s₁.setTop (entryFrame m #[(.int p0), (.int p1), (.int p2), (.int p3)] maxLocals)) tZ := fun tZ kZ => pre150 tZ (by
        show Steps p.tables e below (s₁.setTop (mkF m 31 #[.val (.int p0), .val (.int p1), .val (.int p2), .val (.int p3), .val (.int (1 : Int32)), .val (.int (own_b (¬ ((p0 &&& (2 : Int32)) = (0 : Int32))))), .val (.int (0 : Int32)), .unset, .unset, .unset, .unset, .unset] [])) _
        refine XS.iloadN X0.here hx rfl (hb hby at_31) rfl  ?_
        show Steps p.tables e below (s₁.setTop (mkF m 32 #[.val (.int p0), .val (.int p1), .val (.int p2), .val (.int p3), .val (.int (1 : Int32)), .val (.int (own_b (¬ ((p0 &&& (2 : Int32)) = (0 : Int32))))), .val (.int (0 : Int32)), .unset, .unset, .unset, .unset, .unset] [(.int p2)])) _
        refine X0.ldcInt hx hown (mvT hZ (ow hw 0 rfl)) (g := (mkF m 32 #[.val (.int p0), .val (.int p1), .val (.int p2), .val (.int p3), .val (.int (1 : Int32)), .val (.int (own_b (¬ ((p0 &&& (2 : Int32)) = (0 : Int32))))), .val (.int (0 : Int32)), .unset, .unset, .unset, .unset, .unset] [(.int p2)])) rfl (hb hby at_32) _ ?_
        show Steps p.tables e below (s₁.setTop (mkF m 34 #[.val (.int p0), .val (.int p1), .val (.int p2), .val (.int p3), .val (.int (1 : Int32)), .val (.int (own_b (¬ ((p0 &&& (2 : Int32)) = (0 : Int32))))), .val (.int (0 : Int32)), .unset, .unset, .unset, .unset, .unset] [(.int (2147483647 : Int32)), (.int p2)])) _
        refine XS.iand X0.here hx rfl (hb hby at_34) rfl ?_
        show Steps p.tables e below (s₁.setTop (mkF m 35 #[.val (.int p0), .val (.int p1), .val (.int p2), .val (.int p3), .val (.int (1 : Int32)), .val (.int (own_b (¬ ((p0 &&& (2 : Int32)) = (0 : Int32))))), .val (.int (0 : Int32)), .unset, .unset, .unset, .unset, .unset] [(.int (p2 &&& (2147483647 : Int32)))])) _
        refine XS.iconst X0.here hx rfl (hb hby at_35) ?_
        show Steps p.tables e below (s₁.setTop (mkF m 36 #[.val (.int p0), .val (.int p1), .val (.int p2), .val (.int p3), .val (.int (1 : Int32)), .val (.int (own_b (¬ ((p0 &&& (2 : Int32)) = (0 : Int32))))), .val (.int (0 : Int32)), .unset, .unset, .unset, .unset, .unset] [(.int (3 : Int32)), (.int (p2 &&& (2147483647 : Int32)))])) _
        refine iremM X0 hx rfl (hb hby at_36) rfl (by decide) ?_
        show Steps p.tables e below (s₁.setTop (mkF m 37 #[.val (.int p0), .val (.int p1), .val (.int p2), .val (.int p3), .val (.int (1 : Int32)), .val (.int (own_b (¬ ((p0 &&& (2 : Int32)) = (0 : Int32))))), .val (.int (0 : Int32)), .unset, .unset, .unset, .unset, .unset] [(.int ((p2 &&& (2147483647 : Int32)) % (3 : Int32)))])) _
        refine XS.iload X0.here hx rfl (hb hby at_37) rfl  ?_
        show Steps p.tables e below (s₁.setTop (mkF m 39 #[.val (.int p0), .val (.int p1), .val (.int p2), .val (.int p3), .val (.int (1 : Int32)), .val (.int (own_b (¬ ((p0 &&& (2 : Int32)) = (0 : Int32))))), .val (.int (0 : Int32)), .unset, .unset, .unset, .unset, .unset] [(.int (0 : Int32)), (.int ((p2 &&& (2147483647 : Int32)) % (3 : Int32)))])) _
        refine st151 _ ?_
        show Steps p.tables e below (T151.setTop (mkF m 42 #[.val (.int p0), .val (.int p1), .val (.int p2), .val (.int p3), .val (.int (1 : Int32)), .val (.int (own_b (¬ ((p0 &&& (2 : Int32)) = (0 : Int32))))), .val (.int (0 : Int32)), .unset, .unset, .unset, .unset, .unset] [(.int (if (0 : Int32) < ((p2 &&& (2147483647 : Int32)) % (3 : Int32)) then (0 : Int32) else ((p2 &&& (2147483647 : Int32)) % (3 : Int32))))])) _
        refine XS.istore X151.here hx rfl (hb hby at_42) rfl (l' := #[.val (.int p0), .val (.int p1), .val (.int p2), .val (.int p3), .val (.int (1 : Int32)), .val (.int (own_b (¬ ((p0 &&& (2 : Int32)) = (0 : Int32))))), .val (.int (0 : Int32)), .val (.int (if (0 : Int32) < ((p2 &&& (2147483647 : Int32)) % (3 : Int32)) then (0 : Int32) else ((p2 &&& (2147483647 : Int32)) % (3 : Int32)))), .unset, .unset, .unset, .unset]) rfl ?_
        exact kZ)
      obtain ⟨mv, hmv⟩ : ∃ z, z = (if (0 : Int32) < ((p2 &&& (2147483647 : Int32)) % (3 : Int32)) then (0 : Int32) else ((p2 &&& (2147483647 : Int32)) % (3 : Int32))) := ⟨_, rfl⟩
      rw [← hmv] at pre152
      have hm3 := own_min hmv (own_rem p2) (by decide)
      have hm4 := own_c3 hm3.1 hm3.2.1
      obtain ⟨_, _, ⟨T153, L153, k153, n153⟩, -, X153, ⟨Lc153, hQ153, l153, y153, z153⟩, st153⟩ := Jvm.LawKit.callS X151 hx (y := (⟨"java/lang/Math", "min", "(II)I"⟩ : MethodName)) hown (mvT hZ (ow hw 1 rfl)) (mvT hZ (ow hw 2 rfl)) (mvT hZ (ow hw 3 rfl)) (mvT hZ (ow hw 4 rfl)) (by decide) (backOf (W := 0) (rm1 l Z a0 hw [] ((p3 &&& (2147483647 : Int32)) % (3 : Int32)) ((0 : Int32) - mv) h0 n0 Z0 ) hZ (ow hw 4 rfl) (ow hw 3 rfl) (by decide) (by decide)) (g := (mkF m 55 #[.val (.int p0), .val (.int p1), .val (.int p2), .val (.int p3), .val (.int (1 : Int32)), .val (.int (own_b (¬ ((p0 &&& (2 : Int32)) = (0 : Int32))))), .val (.int (0 : Int32)), .val (.int mv), .unset, .unset, .unset, .unset] [(.int ((0 : Int32) - mv)), (.int ((p3 &&& (2147483647 : Int32)) % (3 : Int32)))])) rfl (by rw [hml]; rfl) (argsL := [(.int ((p3 &&& (2147483647 : Int32)) % (3 : Int32))), (.int ((0 : Int32) - mv))]) (rest := []) (lenOf pd6 rfl) rfl (by show 2 * 0 + _ ≤ _; exact Nat.le_of_eq rfl) (hb hby at_55) (fun _ _ => ⟨rfl, e151, (by decide : 0 + 0 ≤ _), (by decide : 0 + 0 ≤ _)⟩)
      dsimp only [Pt.U, Pt.locs, Pt.cells, Pt.slots] at X153 l153 y153 z153 st153 hQ153
      subst l153 y153 z153
      obtain ⟨rfl, N153q, e153⟩ := hQ153
      have N153 := Fr.app N151 N153q
      have pre154 : ∀ tZ, Steps p.tables e below (T153.setTop (mkF m 60 #[.val (.int p0), .val (.int p1), .val (.int p2), .val (.int p3), .val (.int (1 : Int32)), .val (.int (own_b (¬ ((p0 &&& (2 : Int32)) = (0 : Int32))))), .val (.int (0 : Int32)), .val (.int mv), .val (.int (if ((0 : Int32) - mv) < ((p3 &&& (2147483647 : Int32)) % (3 : Int32)) then ((0 : Int32) - mv) else ((p3 &&& (2147483647 : Int32)) % (3 : Int32)))), .unset, .unset, .unset] [])) tZ → Steps p.tables e below (s₁.setTop (entryFrame m #[(.int p0), (.int p1), (.int p2), (.int p3)] maxLocals)) tZ := fun tZ kZ => pre152 tZ (by
        show Steps p.tables e below (T151.setTop (mkF m 44 #[.val (.int p0), .val (.int p1), .val (.int p2), .val (.int p3), .val (.int (1 : Int32)), .val (.int (own_b (¬ ((p0 &&& (2 : Int32)) = (0 : Int32))))), .val (.int (0 : Int32)), .val (.int mv), .unset, .unset, .unset, .unset] [])) _
        refine XS.iloadN X151.here hx rfl (hb hby at_44) rfl  ?_
        show Steps p.tables e below (T151.setTop (mkF m 45 #[.val (.int p0), .val (.int p1), .val (.int p2), .val (.int p3), .val (.int (1 : Int32)), .val (.int (own_b (¬ ((p0 &&& (2 : Int32)) = (0 : Int32))))), .val (.int (0 : Int32)), .val (.int mv), .unset, .unset, .unset, .unset] [(.int p3)])) _
        refine X151.ldcInt hx hown (mvT hZ (ow hw 0 rfl)) (g := (mkF m 45 #[.val (.int p0), .val (.int p1), .val (.int p2), .val (.int p3), .val (.int (1 : Int32)), .val (.int (own_b (¬ ((p0 &&& (2 : Int32)) = (0 : Int32))))), .val (.int (0 : Int32)), .val (.int mv), .unset, .unset, .unset, .unset] [(.int p3)])) rfl (hb hby at_45) _ ?_
        show Steps p.tables e below (T151.setTop (mkF m 47 #[.val (.int p0), .val (.int p1), .val (.int p2), .val (.int p3), .val (.int (1 : Int32)), .val (.int (own_b (¬ ((p0 &&& (2 : Int32)) = (0 : Int32))))), .val (.int (0 : Int32)), .val (.int mv), .unset, .unset, .unset, .unset] [(.int (2147483647 : Int32)), (.int p3)])) _
        refine XS.iand X151.here hx rfl (hb hby at_47) rfl ?_
        show Steps p.tables e below (T151.setTop (mkF m 48 #[.val (.int p0), .val (.int p1), .val (.int p2), .val (.int p3), .val (.int (1 : Int32)), .val (.int (own_b (¬ ((p0 &&& (2 : Int32)) = (0 : Int32))))), .val (.int (0 : Int32)), .val (.int mv), .unset, .unset, .unset, .unset] [(.int (p3 &&& (2147483647 : Int32)))])) _
        refine XS.iconst X151.here hx rfl (hb hby at_48) ?_
        show Steps p.tables e below (T151.setTop (mkF m 49 #[.val (.int p0), .val (.int p1), .val (.int p2), .val (.int p3), .val (.int (1 : Int32)), .val (.int (own_b (¬ ((p0 &&& (2 : Int32)) = (0 : Int32))))), .val (.int (0 : Int32)), .val (.int mv), .unset, .unset, .unset, .unset] [(.int (3 : Int32)), (.int (p3 &&& (2147483647 : Int32)))])) _
        refine iremM X151 hx rfl (hb hby at_49) rfl (by decide) ?_
        show Steps p.tables e below (T151.setTop (mkF m 50 #[.val (.int p0), .val (.int p1), .val (.int p2), .val (.int p3), .val (.int (1 : Int32)), .val (.int (own_b (¬ ((p0 &&& (2 : Int32)) = (0 : Int32))))), .val (.int (0 : Int32)), .val (.int mv), .unset, .unset, .unset, .unset] [(.int ((p3 &&& (2147483647 : Int32)) % (3 : Int32)))])) _
        refine XS.iload X151.here hx rfl (hb hby at_50) rfl  ?_
        show Steps p.tables e below (T151.setTop (mkF m 52 #[.val (.int p0), .val (.int p1), .val (.int p2), .val (.int p3), .val (.int (1 : Int32)), .val (.int (own_b (¬ ((p0 &&& (2 : Int32)) = (0 : Int32))))), .val (.int (0 : Int32)), .val (.int mv), .unset, .unset, .unset, .unset] [(.int (0 : Int32)), (.int ((p3 &&& (2147483647 : Int32)) % (3 : Int32)))])) _
        refine XS.iload X151.here hx rfl (hb hby at_52) rfl  ?_
        show Steps p.tables e below (T151.setTop (mkF m 54 #[.val (.int p0), .val (.int p1), .val (.int p2), .val (.int p3), .val (.int (1 : Int32)), .val (.int (own_b (¬ ((p0 &&& (2 : Int32)) = (0 : Int32))))), .val (.int (0 : Int32)), .val (.int mv), .unset, .unset, .unset, .unset] [(.int mv), (.int (0 : Int32)), (.int ((p3 &&& (2147483647 : Int32)) % (3 : Int32)))])) _
        refine XS.isub X151.here hx rfl (hb hby at_54) rfl ?_
        show Steps p.tables e below (T151.setTop (mkF m 55 #[.val (.int p0), .val (.int p1), .val (.int p2), .val (.int p3), .val (.int (1 : Int32)), .val (.int (own_b (¬ ((p0 &&& (2 : Int32)) = (0 : Int32))))), .val (.int (0 : Int32)), .val (.int mv), .unset, .unset, .unset, .unset] [(.int ((0 : Int32) - mv)), (.int ((p3 &&& (2147483647 : Int32)) % (3 : Int32)))])) _
        refine st153 _ ?_
        show Steps p.tables e below (T153.setTop (mkF m 58 #[.val (.int p0), .val (.int p1), .val (.int p2), .val (.int p3), .val (.int (1 : Int32)), .val (.int (own_b (¬ ((p0 &&& (2 : Int32)) = (0 : Int32))))), .val (.int (0 : Int32)), .val (.int mv), .unset, .unset, .unset, .unset] [(.int (if ((0 : Int32) - mv) < ((p3 &&& (2147483647 : Int32)) % (3 : Int32)) then ((0 : Int32) - mv) else ((p3 &&& (2147483647 : Int32)) % (3 : Int32))))])) _
        refine XS.istore X153.here hx rfl (hb hby at_58) rfl (l' := #[.val (.int p0), .val (.int p1), .val (.int p2), .val (.int p3), .val (.int (1 : Int32)), .val (.int (own_b (¬ ((p0 &&& (2 : Int32)) = (0 : Int32))))), .val (.int (0 : Int32)), .val (.int mv), .val (.int (if ((0 : Int32) - mv) < ((p3 &&& (2147483647 : Int32)) % (3 : Int32)) then ((0 : Int32) - mv) else ((p3 &&& (2147483647 : Int32)) % (3 : Int32)))), .unset, .unset, .unset]) rfl ?_
        exact kZ)
      obtain ⟨nv, hnv⟩ : ∃ z, z = (if ((0 : Int32) - mv) < ((p3 &&& (2147483647 : Int32)) % (3 : Int32)) then ((0 : Int32) - mv) else ((p3 &&& (2147483647 : Int32)) % (3 : Int32))) := ⟨_, rfl⟩
      rw [← hnv] at pre154
      have hn3 := own_min hnv (own_rem p3) (own_nn hm4 hm3.2.2 (by decide))
      have hn4 := own_c3 hn3.1 hn3.2.1
      obtain ⟨T155, h155, X155, e155, E155, A155, D155, -, st155⟩ := newO X153 hx hZ hown (ow hw 5 rfl) (ow hw 6 rfl) (ow hw 7 rfl) e153 (g := (mkF m 60 #[.val (.int p0), .val (.int p1), .val (.int p2), .val (.int p3), .val (.int (1 : Int32)), .val (.int (own_b (¬ ((p0 &&& (2 : Int32)) = (0 : Int32))))), .val (.int (0 : Int32)), .val (.int mv), .val (.int nv), .unset, .unset, .unset] [])) rfl (hb hby at_60) (by decide) (by decide)
      obtain ⟨b155, g155⟩ : ∃ z, z = h0.size := ⟨_, rfl⟩
      rw [← g155] at A155 D155 st155
      have gn_b155 : n0 ≤ b155 := Nat.le_trans Z0 (Nat.le_of_eq g155.symm)
      have Z156 : n0 ≤ h155.size := Nat.le_trans Z0 E155.1
      have F__tasks_b155 : Fld Z h155 b155 oR "_tasks" "[Lcom/example/portunus/portunus/policy/WaitingTask;" .null := D155 (Or.inl (ow hw 20 rfl)) (ty := (.array (.object oW))) (by decide)
      have F__mayBeLostAfterUs_b155 : Fld Z h155 b155 oR "_mayBeLostAfterUs" "[D" .null := D155 (Or.inl (ow hw 22 rfl)) (ty := (.array .double)) (by decide)
      have F__size_b155 : Fld Z h155 b155 oR "_size" "I" (.int (0 : Int32)) := D155 (Or.inl (ow hw 29 rfl)) (ty := .int) (by decide)
      have F__first_b155 : Fld Z h155 b155 oR "_first" "I" (.int (0 : Int32)) := D155 (Or.inl (ow hw 35 rfl)) (ty := .int) (by decide)
      have F__lostSlots_b155 : Fld Z h155 b155 oR "_lostSlots" "I" (.int (0 : Int32)) := D155 (Or.inl (ow hw 44 rfl)) (ty := .int) (by decide)
      obtain ⟨_, _, ⟨T157, L157, k157, n157⟩, -, X157, ⟨Lc157, hQ157, l157, y157, z157⟩, st157⟩ := X155.specialBack hx (y := (⟨oR, "<init>", "(Z)V"⟩ : MethodName)) rfl hown (mvT hZ (ow hw 8 rfl)) (mvT hZ (ow hw 9 rfl)) (mvT hZ (ow hw 10 rfl)) (by decide) (backOf (W := 1) (rm2d l Z a0 hw [] b155 .null .null h155 n0 Z156 A155 F__tasks_b155 F__mayBeLostAfterUs_b155 F__size_b155 F__lostSlots_b155 F__first_b155 gn_b155) hZ (ow hw 10 rfl) (ow hw 7 rfl) (by decide) (by decide)) (g := (mkF m 66 #[.val (.int p0), .val (.int p1), .val (.int p2), .val (.int p3), .val (.int (1 : Int32)), .val (.int (own_b (¬ ((p0 &&& (2 : Int32)) = (0 : Int32))))), .val (.int (0 : Int32)), .val (.int mv), .val (.int nv), .unset, .unset, .unset] [(.int (1 : Int32)), (.ref b155), (.ref b155)])) rfl (by rw [hml]; rfl) (Steps.refl _) (a := b155) (argsL := [(.int (1 : Int32))]) (rest := [(.ref b155)]) (lenOf pd7 rfl) rfl (by show 2 * 0 + _ ≤ _; exact Nat.le_of_eq rfl) (hb hby at_66) (fun _ _ => ⟨rfl, e155, (by decide : 1 + 2 ≤ _), (by decide : 5 + 16 ≤ _)⟩)
      dsimp only [Pt.U, Pt.locs, Pt.cells, Pt.slots] at X157 l157 y157 z157 st157 hQ157
      subst l157 y157 z157
      obtain ⟨tk_158, kt_159, dd_160, rfl, N157q, K157, u157_0, u157_1, u157_2, u157_3, u157_4, f157_0, f157_1, f157_2, f157_3, f157_4, f157_5, f157_6, f157_7⟩ := hQ157
      have N157 := Fr.app N153 N157q
      have Z161 : n0 ≤ T157.heap.size := Nat.le_trans Z156 K157.1
      have ne162 : b155 ≠ tk_158 := Nat.ne_of_lt (Nat.lt_of_lt_of_le A155.lt u157_1)
      have ne163 : b155 ≠ dd_160 := Nat.ne_of_lt (Nat.lt_of_lt_of_le A155.lt u157_3)
      obtain ⟨cq164, kq164, q164a, q164b, q164c⟩ := isOf hZ rfl f157_0
      obtain ⟨_, _, ⟨T164, L164, k164, n164⟩, -, X164, ⟨Lc164, hQ164, l164, y164, z164⟩, st164⟩ := X157.virtualBack hx (y := (⟨oR, "hasOther", "()Z"⟩ : MethodName)) (z := (⟨oR, "hasOther", "()Z"⟩ : MethodName)) hown (mvT hZ (ow hw 38 rfl)) (mvT hZ (ow hw 39 rfl)) (notFace_of_selects (args := #[]) (mvT hZ (ow hw 41 rfl))) (mvT hZ (ow hw 41 rfl)) (mvT hZ (ow hw 40 rfl)) (by decide) (backOf (W := 0) (rm7 l Z a0 hw [] b155 (0 : Int32) (0 : Int32) T157.heap n0 Z161 f157_3 f157_4) hZ (ow hw 42 rfl) (ow hw 7 rfl) (by decide) (by decide)) q164a q164c (g := (mkF m 116 #[.val (.int p0), .val (.int p1), .val (.int p2), .val (.int p3), .val (.int (1 : Int32)), .val (.int (own_b (¬ ((p0 &&& (2 : Int32)) = (0 : Int32))))), .val (.int (0 : Int32)), .val (.int mv), .val (.int nv), .val (.ref b155), .unset, .unset] [(.ref b155)])) rfl (by rw [hml]; rfl) (Steps.refl _) (argsL := []) (rest := []) (lenOf pd8 rfl) rfl (by show 2 * 0 + _ ≤ _; exact Nat.le_of_eq rfl) (hb hby at_116) (fun _ _ => ⟨rfl, rfl, (by decide : 3 + 0 ≤ _), (by decide : 21 + 0 ≤ _)⟩)
      dsimp only [Pt.U, Pt.locs, Pt.cells, Pt.slots] at X164 l164 y164 z164 st164 hQ164
      subst l164 y164 z164
      obtain ⟨rfl, N164q, e164⟩ := hQ164
      have N164 := Fr.app N157 N164q
      have pre165 : ∀ tZ, Steps p.tables e below (T164.setTop (mkF m 123 #[.val (.int p0), .val (.int p1), .val (.int p2), .val (.int p3), .val (.int (1 : Int32)), .val (.int (own_b (¬ ((p0 &&& (2 : Int32)) = (0 : Int32))))), .val (.int (0 : Int32)), .val (.int mv), .val (.int nv), .val (.ref b155), .val (.int (own_b ((0 : Int32) < (0 : Int32)))), .unset] [(.int (own_b (¬ ((p0 &&& (2 : Int32)) = (0 : Int32)))))])) tZ → Steps p.tables e below (s₁.setTop (entryFrame m #[(.int p0), (.int p1), (.int p2), (.int p3)] maxLocals)) tZ := fun tZ kZ => pre154 tZ (by
        show Steps p.tables e below (T153.setTop (mkF m 60 #[.val (.int p0), .val (.int p1), .val (.int p2), .val (.int p3), .val (.int (1 : Int32)), .val (.int (own_b (¬ ((p0 &&& (2 : Int32)) = (0 : Int32))))), .val (.int (0 : Int32)), .val (.int mv), .val (.int nv), .unset, .unset, .unset] [])) _
        refine st155 _ ?_
        show Steps p.tables e below (T155.setTop (mkF m 63 #[.val (.int p0), .val (.int p1), .val (.int p2), .val (.int p3), .val (.int (1 : Int32)), .val (.int (own_b (¬ ((p0 &&& (2 : Int32)) = (0 : Int32))))), .val (.int (0 : Int32)), .val (.int mv), .val (.int nv), .unset, .unset, .unset] [(.ref b155)])) _
        refine XS.dup X155.here hx rfl (hb hby at_63) rfl rfl ?_
        show Steps p.tables e below (T155.setTop (mkF m 64 #[.val (.int p0), .val (.int p1), .val (.int p2), .val (.int p3), .val (.int (1 : Int32)), .val (.int (own_b (¬ ((p0 &&& (2 : Int32)) = (0 : Int32))))), .val (.int (0 : Int32)), .val (.int mv), .val (.int nv), .unset, .unset, .unset] [(.ref b155), (.ref b155)])) _
        refine XS.iload X155.here hx rfl (hb hby at_64) rfl  ?_
        show Steps p.tables e below (T155.setTop (mkF m 66 #[.val (.int p0), .val (.int p1), .val (.int p2), .val (.int p3), .val (.int (1 : Int32)), .val (.int (own_b (¬ ((p0 &&& (2 : Int32)) = (0 : Int32))))), .val (.int (0 : Int32)), .val (.int mv), .val (.int nv), .unset, .unset, .unset] [(.int (1 : Int32)), (.ref b155), (.ref b155)])) _
        refine st157.trans ?_
        show Steps p.tables e below (T157.setTop (mkF m 69 #[.val (.int p0), .val (.int p1), .val (.int p2), .val (.int p3), .val (.int (1 : Int32)), .val (.int (own_b (¬ ((p0 &&& (2 : Int32)) = (0 : Int32))))), .val (.int (0 : Int32)), .val (.int mv), .val (.int nv), .unset, .unset, .unset] [(.ref b155)])) _
        refine XS.astore X157.here hx rfl (hb hby at_69) rfl rfl (l' := #[.val (.int p0), .val (.int p1), .val (.int p2), .val (.int p3), .val (.int (1 : Int32)), .val (.int (own_b (¬ ((p0 &&& (2 : Int32)) = (0 : Int32))))), .val (.int (0 : Int32)), .val (.int mv), .val (.int nv), .val (.ref b155), .unset, .unset]) rfl ?_
        show Steps p.tables e below (T157.setTop (mkF m 71 #[.val (.int p0), .val (.int p1), .val (.int p2), .val (.int p3), .val (.int (1 : Int32)), .val (.int (own_b (¬ ((p0 &&& (2 : Int32)) = (0 : Int32))))), .val (.int (0 : Int32)), .val (.int mv), .val (.int nv), .val (.ref b155), .unset, .unset] [])) _
        refine XS.iload X157.here hx rfl (hb hby at_71) rfl  ?_
        show Steps p.tables e below (T157.setTop (mkF m 73 #[.val (.int p0), .val (.int p1), .val (.int p2), .val (.int p3), .val (.int (1 : Int32)), .val (.int (own_b (¬ ((p0 &&& (2 : Int32)) = (0 : Int32))))), .val (.int (0 : Int32)), .val (.int mv), .val (.int nv), .val (.ref b155), .unset, .unset] [(.int (0 : Int32))])) _
        refine XS.iconst X157.here hx rfl (hb hby at_73) ?_
        show Steps p.tables e below (T157.setTop (mkF m 74 #[.val (.int p0), .val (.int p1), .val (.int p2), .val (.int p3), .val (.int (1 : Int32)), .val (.int (own_b (¬ ((p0 &&& (2 : Int32)) = (0 : Int32))))), .val (.int (0 : Int32)), .val (.int mv), .val (.int nv), .val (.ref b155), .unset, .unset] [(.int (1 : Int32)), (.int (0 : Int32))])) _
        refine XS.icmpYes X157.here hx rfl (pc0 := 74) (pc' := 84) rfl (hb hby at_74) rfl (tlt (by decide)).1 (by decide) (by decide) ?_
        show Steps p.tables e below (T157.setTop (mkF m 84 #[.val (.int p0), .val (.int p1), .val (.int p2), .val (.int p3), .val (.int (1 : Int32)), .val (.int (own_b (¬ ((p0 &&& (2 : Int32)) = (0 : Int32))))), .val (.int (0 : Int32)), .val (.int mv), .val (.int nv), .val (.ref b155), .unset, .unset] [])) _
        refine XS.iload X157.here hx rfl (hb hby at_84) rfl  ?_
        show Steps p.tables e below (T157.setTop (mkF m 86 #[.val (.int p0), .val (.int p1), .val (.int p2), .val (.int p3), .val (.int (1 : Int32)), .val (.int (own_b (¬ ((p0 &&& (2 : Int32)) = (0 : Int32))))), .val (.int (0 : Int32)), .val (.int mv), .val (.int nv), .val (.ref b155), .unset, .unset] [(.int (0 : Int32))])) _
        refine XS.iconst X157.here hx rfl (hb hby at_86) ?_
        show Steps p.tables e below (T157.setTop (mkF m 87 #[.val (.int p0), .val (.int p1), .val (.int p2), .val (.int p3), .val (.int (1 : Int32)), .val (.int (own_b (¬ ((p0 &&& (2 : Int32)) = (0 : Int32))))), .val (.int (0 : Int32)), .val (.int mv), .val (.int nv), .val (.ref b155), .unset, .unset] [(.int (2 : Int32)), (.int (0 : Int32))])) _
        refine XS.icmpYes X157.here hx rfl (pc0 := 87) (pc' := 99) rfl (hb hby at_87) rfl (tlt (by decide)).1 (by decide) (by decide) ?_
        show Steps p.tables e below (T157.setTop (mkF m 99 #[.val (.int p0), .val (.int p1), .val (.int p2), .val (.int p3), .val (.int (1 : Int32)), .val (.int (own_b (¬ ((p0 &&& (2 : Int32)) = (0 : Int32))))), .val (.int (0 : Int32)), .val (.int mv), .val (.int nv), .val (.ref b155), .unset, .unset] [])) _
        refine XS.iload X157.here hx rfl (hb hby at_99) rfl  ?_
        show Steps p.tables e below (T157.setTop (mkF m 101 #[.val (.int p0), .val (.int p1), .val (.int p2), .val (.int p3), .val (.int (1 : Int32)), .val (.int (own_b (¬ ((p0 &&& (2 : Int32)) = (0 : Int32))))), .val (.int (0 : Int32)), .val (.int mv), .val (.int nv), .val (.ref b155), .unset, .unset] [(.int (0 : Int32))])) _
        refine XS.iconst X157.here hx rfl (hb hby at_101) ?_
        show Steps p.tables e below (T157.setTop (mkF m 102 #[.val (.int p0), .val (.int p1), .val (.int p2), .val (.int p3), .val (.int (1 : Int32)), .val (.int (own_b (¬ ((p0 &&& (2 : Int32)) = (0 : Int32))))), .val (.int (0 : Int32)), .val (.int mv), .val (.int nv), .val (.ref b155), .unset, .unset] [(.int (3 : Int32)), (.int (0 : Int32))])) _
        refine XS.icmpYes X157.here hx rfl (pc0 := 102) (pc' := 114) rfl (hb hby at_102) rfl (tlt (by decide)).1 (by decide) (by decide) ?_
        show Steps p.tables e below (T157.setTop (mkF m 114 #[.val (.int p0), .val (.int p1), .val (.int p2), .val (.int p3), .val (.int (1 : Int32)), .val (.int (own_b (¬ ((p0 &&& (2 : Int32)) = (0 : Int32))))), .val (.int (0 : Int32)), .val (.int mv), .val (.int nv), .val (.ref b155), .unset, .unset] [])) _
        refine XS.aload X157.here hx rfl (hb hby at_114) rfl rfl ?_
        show Steps p.tables e below (T157.setTop (mkF m 116 #[.val (.int p0), .val (.int p1), .val (.int p2), .val (.int p3), .val (.int (1 : Int32)), .val (.int (own_b (¬ ((p0 &&& (2 : Int32)) = (0 : Int32))))), .val (.int (0 : Int32)), .val (.int mv), .val (.int nv), .val (.ref b155), .unset, .unset] [(.ref b155)])) _
        refine st164.trans ?_
        show Steps p.tables e below (T164.setTop (mkF m 119 #[.val (.int p0), .val (.int p1), .val (.int p2), .val (.int p3), .val (.int (1 : Int32)), .val (.int (own_b (¬ ((p0 &&& (2 : Int32)) = (0 : Int32))))), .val (.int (0 : Int32)), .val (.int mv), .val (.int nv), .val (.ref b155), .unset, .unset] [(.int (own_b ((0 : Int32) < (0 : Int32))))])) _
        refine XS.istore X164.here hx rfl (hb hby at_119) rfl (l' := #[.val (.int p0), .val (.int p1), .val (.int p2), .val (.int p3), .val (.int (1 : Int32)), .val (.int (own_b (¬ ((p0 &&& (2 : Int32)) = (0 : Int32))))), .val (.int (0 : Int32)), .val (.int mv), .val (.int nv), .val (.ref b155), .val (.int (own_b ((0 : Int32) < (0 : Int32)))), .unset]) rfl ?_
        show Steps p.tables e below (T164.setTop (mkF m 121 #[.val (.int p0), .val (.int p1), .val (.int p2), .val (.int p3), .val (.int (1 : Int32)), .val (.int (own_b (¬ ((p0 &&& (2 : Int32)) = (0 : Int32))))), .val (.int (0 : Int32)), .val (.int mv), .val (.int nv), .val (.ref b155), .val (.int (own_b ((0 : Int32) < (0 : Int32)))), .unset] [])) _
        refine XS.iload X164.here hx rfl (hb hby at_121) rfl  ?_
        exact kZ)
      by_cases hc166 : (¬ ((p0 &&& (2 : Int32)) = (0 : Int32)))
      ·  -- yes
        obtain ⟨_, _, ⟨T167, L167, k167, n167⟩, -, X167, ⟨Lc167, hQ167, l167, y167, z167⟩, st167⟩ := Jvm.LawKit.callS X164 hx (y := (⟨oL, "doPolls", "(Lcom/example/portunus/portunus/policy/Run;I)V"⟩ : MethodName)) hown (mvT hZ (ow hw 54 rfl)) (mvT hZ (ow hw 55 rfl)) (mvT hZ (ow hw 47 rfl)) (mvT hZ (ow hw 56 rfl)) (by decide) (backOf (W := 0) (rm10d l Z a0 hw [] b155 nv tk_158 (0 : Int32) (0 : Int32) (0 : Int32) kt_159 dd_160 T157.heap n0 Z161 f157_0 f157_1 f157_2 f157_3 f157_4 f157_5 f157_6 gn_b155 u157_0 ne162 f157_7 u157_2 ne163 u157_4 hn4 (by decide)) hZ (ow hw 56 rfl) (ow hw 47 rfl) (by decide) (by decide)) (g := (mkF m 130 #[.val (.int p0), .val (.int p1), .val (.int p2), .val (.int p3), .val (.int (1 : Int32)), .val (.int (own_b (¬ ((p0 &&& (2 : Int32)) = (0 : Int32))))), .val (.int (0 : Int32)), .val (.int mv), .val (.int nv), .val (.ref b155), .val (.int (own_b ((0 : Int32) < (0 : Int32)))), .unset] [(.int nv), (.ref b155)])) rfl (by rw [hml]; rfl) (argsL := [(.ref b155), (.int nv)]) (rest := []) (lenOf pd9 rfl) rfl (by show 2 * 0 + _ ≤ _; exact Nat.le_of_eq rfl) (hb hby at_130) (fun _ _ => ⟨rfl, e164, (by decide : 3 + 0 ≤ _), (by decide : 21 + 0 ≤ _)⟩)
        dsimp only [Pt.U, Pt.locs, Pt.cells, Pt.slots] at X167 l167 y167 z167 st167 hQ167
        subst l167 y167 z167
        obtain ⟨fn_168, rfl, N167q, K167, f167_0, f167_1, f167_2, f167_3, f167_4, f167_5, f167_6, f167_7⟩ := hQ167
        have N167 := Fr.app N164 N167q
        have Z169 : n0 ≤ T167.heap.size := Nat.le_trans Z161 K167.1
        obtain ⟨_, _, ⟨T170, L170, k170, n170⟩, -, X170, ⟨Lc170, hQ170, l170, y170, z170⟩, st170⟩ := Jvm.LawKit.callS X167 hx (y := (⟨oL, "doMarks", "(Lcom/example/portunus/portunus/policy/Run;I)V"⟩ : MethodName)) hown (mvT hZ (ow hw 45 rfl)) (mvT hZ (ow hw 46 rfl)) (mvT hZ (ow hw 47 rfl)) (mvT hZ (ow hw 48 rfl)) (by decide) (backOf (W := 0) (rm8d l Z a0 hw [] b155 mv tk_158 (own_ps (0 : Int32) (0 : Int32) nv) (own_pl (0 : Int32) nv) fn_168 kt_159 dd_160 T167.heap n0 Z169 f167_0 f167_1 f167_2 f167_3 f167_4 f167_5 f167_6 gn_b155 u157_0 ne162 f167_7 u157_2 ne163 u157_4 hm4) hZ (ow hw 48 rfl) (ow hw 47 rfl) (by decide) (by decide)) (g := (mkF m 137 #[.val (.int p0), .val (.int p1), .val (.int p2), .val (.int p3), .val (.int (1 : Int32)), .val (.int (own_b (¬ ((p0 &&& (2 : Int32)) = (0 : Int32))))), .val (.int (0 : Int32)), .val (.int mv), .val (.int nv), .val (.ref b155), .val (.int (own_b ((0 : Int32) < (0 : Int32)))), .unset] [(.int mv), (.ref b155)])) rfl (by rw [hml]; rfl) (argsL := [(.ref b155), (.int mv)]) (rest := []) (lenOf pd9 rfl) rfl (by show 2 * 0 + _ ≤ _; exact Nat.le_of_eq rfl) (hb hby at_137) (fun _ _ => ⟨rfl, rfl, (by decide : 3 + 0 ≤ _), (by decide : 21 + 0 ≤ _)⟩)
        dsimp only [Pt.U, Pt.locs, Pt.cells, Pt.slots] at X170 l170 y170 z170 st170 hQ170
        subst l170 y170 z170
        obtain ⟨rfl, N170q, K170, f170_0, f170_1, f170_2, f170_3, f170_4, f170_5, f170_6, f170_7⟩ := hQ170
        have N170 := Fr.app N167 N170q
        have Z171 : n0 ≤ T170.heap.size := Nat.le_trans Z169 K170.1
        obtain ⟨cq172, kq172, q172a, q172b, q172c⟩ := isOf hZ rfl f170_0
        obtain ⟨_, _, ⟨T172, L172, k172, n172⟩, -, X172, ⟨Lc172, hQ172, l172, y172, z172⟩, st172⟩ := X170.virtualBack hx (y := (⟨oR, "hasOther", "()Z"⟩ : MethodName)) (z := (⟨oR, "hasOther", "()Z"⟩ : MethodName)) hown (mvT hZ (ow hw 38 rfl)) (mvT hZ (ow hw 39 rfl)) (notFace_of_selects (args := #[]) (mvT hZ (ow hw 41 rfl))) (mvT hZ (ow hw 41 rfl)) (mvT hZ (ow hw 40 rfl)) (by decide) (backOf (W := 0) (rm7 l Z a0 hw [] b155 (own_ps (0 : Int32) (0 : Int32) nv) ((own_pl (0 : Int32) nv) + mv) T170.heap n0 Z171 f170_3 f170_4) hZ (ow hw 42 rfl) (ow hw 7 rfl) (by decide) (by decide)) q172a q172c (g := (mkF m 159 #[.val (.int p0), .val (.int p1), .val (.int p2), .val (.int p3), .val (.int (1 : Int32)), .val (.int (own_b (¬ ((p0 &&& (2 : Int32)) = (0 : Int32))))), .val (.int (0 : Int32)), .val (.int mv), .val (.int nv), .val (.ref b155), .val (.int (own_b ((0 : Int32) < (0 : Int32)))), .unset] [(.ref b155)])) rfl (by rw [hml]; rfl) (Steps.refl _) (argsL := []) (rest := []) (lenOf pd8 rfl) rfl (by show 2 * 0 + _ ≤ _; exact Nat.le_of_eq rfl) (hb hby at_159) (fun _ _ => ⟨rfl, rfl, (by decide : 3 + 0 ≤ _), (by decide : 21 + 0 ≤ _)⟩)
        dsimp only [Pt.U, Pt.locs, Pt.cells, Pt.slots] at X172 l172 y172 z172 st172 hQ172
        subst l172 y172 z172
        obtain ⟨rfl, N172q, e172⟩ := hQ172
        have N172 := Fr.app N170 N172q
        have pre173 : ∀ tZ, Steps p.tables e below (T172.setTop (mkF m 189 #[.val (.int p0), .val (.int p1), .val (.int p2), .val (.int p3), .val (.int (1 : Int32)), .val (.int (own_b (¬ ((p0 &&& (2 : Int32)) = (0 : Int32))))), .val (.int (0 : Int32)), .val (.int mv), .val (.int nv), .val (.ref b155), .val (.int (own_b ((0 : Int32) < (0 : Int32)))), .val (.int (own_b (((own_pl (0 : Int32) nv) + mv) < (own_ps (0 : Int32) (0 : Int32) nv))))] [(.int (((0 : Int32) - mv) - nv)), (.int (own_b (((own_pl (0 : Int32) nv) + mv) < (own_ps (0 : Int32) (0 : Int32) nv))))])) tZ → Steps p.tables e below (s₁.setTop (entryFrame m #[(.int p0), (.int p1), (.int p2), (.int p3)] maxLocals)) tZ := fun tZ kZ => pre165 tZ (by
          show Steps p.tables e below (T164.setTop (mkF m 123 #[.val (.int p0), .val (.int p1), .val (.int p2), .val (.int p3), .val (.int (1 : Int32)), .val (.int (own_b (¬ ((p0 &&& (2 : Int32)) = (0 : Int32))))), .val (.int (0 : Int32)), .val (.int mv), .val (.int nv), .val (.ref b155), .val (.int (own_b ((0 : Int32) < (0 : Int32)))), .unset] [(.int (own_b (¬ ((p0 &&& (2 : Int32)) = (0 : Int32)))))])) _
          refine XS.ifNo X164.here hx rfl (hb hby at_123) rfl ((if0 _ _).trans (feq (own_b_nz hc166)).1) ?_
          show Steps p.tables e below (T164.setTop (mkF m 126 #[.val (.int p0), .val (.int p1), .val (.int p2), .val (.int p3), .val (.int (1 : Int32)), .val (.int (own_b (¬ ((p0 &&& (2 : Int32)) = (0 : Int32))))), .val (.int (0 : Int32)), .val (.int mv), .val (.int nv), .val (.ref b155), .val (.int (own_b ((0 : Int32) < (0 : Int32)))), .unset] [])) _
          refine XS.aload X164.here hx rfl (hb hby at_126) rfl rfl ?_
          show Steps p.tables e below (T164.setTop (mkF m 128 #[.val (.int p0), .val (.int p1), .val (.int p2), .val (.int p3), .val (.int (1 : Int32)), .val (.int (own_b (¬ ((p0 &&& (2 : Int32)) = (0 : Int32))))), .val (.int (0 : Int32)), .val (.int mv), .val (.int nv), .val (.ref b155), .val (.int (own_b ((0 : Int32) < (0 : Int32)))), .unset] [(.ref b155)])) _
          refine XS.iload X164.here hx rfl (hb hby at_128) rfl  ?_
          show Steps p.tables e below (T164.setTop (mkF m 130 #[.val (.int p0), .val (.int p1), .val (.int p2), .val (.int p3), .val (.int (1 : Int32)), .val (.int (own_b (¬ ((p0 &&& (2 : Int32)) = (0 : Int32))))), .val (.int (0 : Int32)), .val (.int mv), .val (.int nv), .val (.ref b155), .val (.int (own_b ((0 : Int32) < (0 : Int32)))), .unset] [(.int nv), (.ref b155)])) _
          refine st167 _ ?_
          show Steps p.tables e below (T167.setTop (mkF m 133 #[.val (.int p0), .val (.int p1), .val (.int p2), .val (.int p3), .val (.int (1 : Int32)), .val (.int (own_b (¬ ((p0 &&& (2 : Int32)) = (0 : Int32))))), .val (.int (0 : Int32)), .val (.int mv), .val (.int nv), .val (.ref b155), .val (.int (own_b ((0 : Int32) < (0 : Int32)))), .unset] [])) _
          refine XS.aload X167.here hx rfl (hb hby at_133) rfl rfl ?_
          show Steps p.tables e below (T167.setTop (mkF m 135 #[.val (.int p0), .val (.int p1), .val (.int p2), .val (.int p3), .val (.int (1 : Int32)), .val (.int (own_b (¬ ((p0 &&& (2 : Int32)) = (0 : Int32))))), .val (.int (0 : Int32)), .val (.int mv), .val (.int nv), .val (.ref b155), .val (.int (own_b ((0 : Int32) < (0 : Int32)))), .unset] [(.ref b155)])) _
          refine XS.iload X167.here hx rfl (hb hby at_135) rfl  ?_
          show Steps p.tables e below (T167.setTop (mkF m 137 #[.val (.int p0), .val (.int p1), .val (.int p2), .val (.int p3), .val (.int (1 : Int32)), .val (.int (own_b (¬ ((p0 &&& (2 : Int32)) = (0 : Int32))))), .val (.int (0 : Int32)), .val (.int mv), .val (.int nv), .val (.ref b155), .val (.int (own_b ((0 : Int32) < (0 : Int32)))), .unset] [(.int mv), (.ref b155)])) _
          refine st170 _ ?_
          show Steps p.tables e below (T170.setTop (mkF m 140 #[.val (.int p0), .val (.int p1), .val (.int p2), .val (.int p3), .val (.int (1 : Int32)), .val (.int (own_b (¬ ((p0 &&& (2 : Int32)) = (0 : Int32))))), .val (.int (0 : Int32)), .val (.int mv), .val (.int nv), .val (.ref b155), .val (.int (own_b ((0 : Int32) < (0 : Int32)))), .unset] [])) _
          refine XS.goto X170.here hx rfl (pc0 := 140) (pc' := 157) rfl (hb hby at_140) (by decide) (by decide) ?_
          show Steps p.tables e below (T170.setTop (mkF m 157 #[.val (.int p0), .val (.int p1), .val (.int p2), .val (.int p3), .val (.int (1 : Int32)), .val (.int (own_b (¬ ((p0 &&& (2 : Int32)) = (0 : Int32))))), .val (.int (0 : Int32)), .val (.int mv), .val (.int nv), .val (.ref b155), .val (.int (own_b ((0 : Int32) < (0 : Int32)))), .unset] [])) _
          refine XS.aload X170.here hx rfl (hb hby at_157) rfl rfl ?_
          show Steps p.tables e below (T170.setTop (mkF m 159 #[.val (.int p0), .val (.int p1), .val (.int p2), .val (.int p3), .val (.int (1 : Int32)), .val (.int (own_b (¬ ((p0 &&& (2 : Int32)) = (0 : Int32))))), .val (.int (0 : Int32)), .val (.int mv), .val (.int nv), .val (.ref b155), .val (.int (own_b ((0 : Int32) < (0 : Int32)))), .unset] [(.ref b155)])) _
          refine st172.trans ?_
          show Steps p.tables e below (T172.setTop (mkF m 162 #[.val (.int p0), .val (.int p1), .val (.int p2), .val (.int p3), .val (.int (1 : Int32)), .val (.int (own_b (¬ ((p0 &&& (2 : Int32)) = (0 : Int32))))), .val (.int (0 : Int32)), .val (.int mv), .val (.int nv), .val (.ref b155), .val (.int (own_b ((0 : Int32) < (0 : Int32)))), .unset] [(.int (own_b (((own_pl (0 : Int32) nv) + mv) < (own_ps (0 : Int32) (0 : Int32) nv))))])) _
          refine XS.istore X172.here hx rfl (hb hby at_162) rfl (l' := #[.val (.int p0), .val (.int p1), .val (.int p2), .val (.int p3), .val (.int (1 : Int32)), .val (.int (own_b (¬ ((p0 &&& (2 : Int32)) = (0 : Int32))))), .val (.int (0 : Int32)), .val (.int mv), .val (.int nv), .val (.ref b155), .val (.int (own_b ((0 : Int32) < (0 : Int32)))), .val (.int (own_b (((own_pl (0 : Int32) nv) + mv) < (own_ps (0 : Int32) (0 : Int32) nv))))]) rfl ?_
          show Steps p.tables e below (T172.setTop (mkF m 164 #[.val (.int p0), .val (.int p1), .val (.int p2), .val (.int p3), .val (.int (1 : Int32)), .val (.int (own_b (¬ ((p0 &&& (2 : Int32)) = (0 : Int32))))), .val (.int (0 : Int32)), .val (.int mv), .val (.int nv), .val (.ref b155), .val (.int (own_b ((0 : Int32) < (0 : Int32)))), .val (.int (own_b (((own_pl (0 : Int32) nv) + mv) < (own_ps (0 : Int32) (0 : Int32) nv))))] [])) _
          refine XS.iload X172.here hx rfl (hb hby at_164) rfl  ?_
          show Steps p.tables e below (T172.setTop (mkF m 166 #[.val (.int p0), .val (.int p1), .val (.int p2), .val (.int p3), .val (.int (1 : Int32)), .val (.int (own_b (¬ ((p0 &&& (2 : Int32)) = (0 : Int32))))), .val (.int (0 : Int32)), .val (.int mv), .val (.int nv), .val (.ref b155), .val (.int (own_b ((0 : Int32) < (0 : Int32)))), .val (.int (own_b (((own_pl (0 : Int32) nv) + mv) < (own_ps (0 : Int32) (0 : Int32) nv))))] [(.int (own_b ((0 : Int32) < (0 : Int32))))])) _
          refine XS.iload X172.here hx rfl (hb hby at_166) rfl  ?_
          show Steps p.tables e below (T172.setTop (mkF m 168 #[.val (.int p0), .val (.int p1), .val (.int p2), .val (.int p3), .val (.int (1 : Int32)), .val (.int (own_b (¬ ((p0 &&& (2 : Int32)) = (0 : Int32))))), .val (.int (0 : Int32)), .val (.int mv), .val (.int nv), .val (.ref b155), .val (.int (own_b ((0 : Int32) < (0 : Int32)))), .val (.int (own_b (((own_pl (0 : Int32) nv) + mv) < (own_ps (0 : Int32) (0 : Int32) nv))))] [(.int (0 : Int32)), (.int (own_b ((0 : Int32) < (0 : Int32))))])) _
          refine XS.ifYes X172.here hx rfl (pc0 := 168) (pc' := 175) rfl (hb hby at_168) rfl ((if0 _ _).trans (flt (by decide)).2.2.2) (by decide) (by decide) ?_
          show Steps p.tables e below (T172.setTop (mkF m 175 #[.val (.int p0), .val (.int p1), .val (.int p2), .val (.int p3), .val (.int (1 : Int32)), .val (.int (own_b (¬ ((p0 &&& (2 : Int32)) = (0 : Int32))))), .val (.int (0 : Int32)), .val (.int mv), .val (.int nv), .val (.ref b155), .val (.int (own_b ((0 : Int32) < (0 : Int32)))), .val (.int (own_b (((own_pl (0 : Int32) nv) + mv) < (own_ps (0 : Int32) (0 : Int32) nv))))] [(.int (own_b ((0 : Int32) < (0 : Int32))))])) _
          refine XS.iconst X172.here hx rfl (hb hby at_175) ?_
          show Steps p.tables e below (T172.setTop (mkF m 176 #[.val (.int p0), .val (.int p1), .val (.int p2), .val (.int p3), .val (.int (1 : Int32)), .val (.int (own_b (¬ ((p0 &&& (2 : Int32)) = (0 : Int32))))), .val (.int (0 : Int32)), .val (.int mv), .val (.int nv), .val (.ref b155), .val (.int (own_b ((0 : Int32) < (0 : Int32)))), .val (.int (own_b (((own_pl (0 : Int32) nv) + mv) < (own_ps (0 : Int32) (0 : Int32) nv))))] [(.int (0 : Int32)), (.int (own_b ((0 : Int32) < (0 : Int32))))])) _
          refine XS.icmpNo X172.here hx rfl (hb hby at_176) rfl (teq (by decide)).2 ?_
          show Steps p.tables e below (T172.setTop (mkF m 179 #[.val (.int p0), .val (.int p1), .val (.int p2), .val (.int p3), .val (.int (1 : Int32)), .val (.int (own_b (¬ ((p0 &&& (2 : Int32)) = (0 : Int32))))), .val (.int (0 : Int32)), .val (.int mv), .val (.int nv), .val (.ref b155), .val (.int (own_b ((0 : Int32) < (0 : Int32)))), .val (.int (own_b (((own_pl (0 : Int32) nv) + mv) < (own_ps (0 : Int32) (0 : Int32) nv))))] [])) _
          refine XS.iload X172.here hx rfl (hb hby at_179) rfl  ?_
          show Steps p.tables e below (T172.setTop (mkF m 181 #[.val (.int p0), .val (.int p1), .val (.int p2), .val (.int p3), .val (.int (1 : Int32)), .val (.int (own_b (¬ ((p0 &&& (2 : Int32)) = (0 : Int32))))), .val (.int (0 : Int32)), .val (.int mv), .val (.int nv), .val (.ref b155), .val (.int (own_b ((0 : Int32) < (0 : Int32)))), .val (.int (own_b (((own_pl (0 : Int32) nv) + mv) < (own_ps (0 : Int32) (0 : Int32) nv))))] [(.int (own_b (((own_pl (0 : Int32) nv) + mv) < (own_ps (0 : Int32) (0 : Int32) nv))))])) _
          refine XS.iload X172.here hx rfl (hb hby at_181) rfl  ?_
          show Steps p.tables e below (T172.setTop (mkF m 183 #[.val (.int p0), .val (.int p1), .val (.int p2), .val (.int p3), .val (.int (1 : Int32)), .val (.int (own_b (¬ ((p0 &&& (2 : Int32)) = (0 : Int32))))), .val (.int (0 : Int32)), .val (.int mv), .val (.int nv), .val (.ref b155), .val (.int (own_b ((0 : Int32) < (0 : Int32)))), .val (.int (own_b (((own_pl (0 : Int32) nv) + mv) < (own_ps (0 : Int32) (0 : Int32) nv))))] [(.int (0 : Int32)), (.int (own_b (((own_pl (0 : Int32) nv) + mv) < (own_ps (0 : Int32) (0 : Int32) nv))))])) _
          refine XS.iload X172.here hx rfl (hb hby at_183) rfl  ?_
          show Steps p.tables e below (T172.setTop (mkF m 185 #[.val (.int p0), .val (.int p1), .val (.int p2), .val (.int p3), .val (.int (1 : Int32)), .val (.int (own_b (¬ ((p0 &&& (2 : Int32)) = (0 : Int32))))), .val (.int (0 : Int32)), .val (.int mv), .val (.int nv), .val (.ref b155), .val (.int (own_b ((0 : Int32) < (0 : Int32)))), .val (.int (own_b (((own_pl (0 : Int32) nv) + mv) < (own_ps (0 : Int32) (0 : Int32) nv))))] [(.int mv), (.int (0 : Int32)), (.int (own_b (((own_pl (0 : Int32) nv) + mv) < (own_ps (0 : Int32) (0 : Int32) nv))))])) _
          refine XS.isub X172.here hx rfl (hb hby at_185) rfl ?_
          show Steps p.tables e below (T172.setTop (mkF m 186 #[.val (.int p0), .val (.int p1), .val (.int p2), .val (.int p3), .val (.int (1 : Int32)), .val (.int (own_b (¬ ((p0 &&& (2 : Int32)) = (0 : Int32))))), .val (.int (0 : Int32)), .val (.int mv), .val (.int nv), .val (.ref b155), .val (.int (own_b ((0 : Int32) < (0 : Int32)))), .val (.int (own_b (((own_pl (0 : Int32) nv) + mv) < (own_ps (0 : Int32) (0 : Int32) nv))))] [(.int ((0 : Int32) - mv)), (.int (own_b (((own_pl (0 : Int32) nv) + mv) < (own_ps (0 : Int32) (0 : Int32) nv))))])) _
          refine XS.iload X172.here hx rfl (hb hby at_186) rfl  ?_
          show Steps p.tables e below (T172.setTop (mkF m 188 #[.val (.int p0), .val (.int p1), .val (.int p2), .val (.int p3), .val (.int (1 : Int32)), .val (.int (own_b (¬ ((p0 &&& (2 : Int32)) = (0 : Int32))))), .val (.int (0 : Int32)), .val (.int mv), .val (.int nv), .val (.ref b155), .val (.int (own_b ((0 : Int32) < (0 : Int32)))), .val (.int (own_b (((own_pl (0 : Int32) nv) + mv) < (own_ps (0 : Int32) (0 : Int32) nv))))] [(.int nv), (.int ((0 : Int32) - mv)), (.int (own_b (((own_pl (0 : Int32) nv) + mv) < (own_ps (0 : Int32) (0 : Int32) nv))))])) _
          refine XS.isub X172.here hx rfl (hb hby at_188) rfl ?_
          exact kZ)
        have pre175 : ∀ tZ, Steps p.tables e below (T172.setTop (mkF m 197 #[.val (.int p0), .val (.int p1), .val (.int p2), .val (.int p3), .val (.int (1 : Int32)), .val (.int (own_b (¬ ((p0 &&& (2 : Int32)) = (0 : Int32))))), .val (.int (0 : Int32)), .val (.int mv), .val (.int nv), .val (.ref b155), .val (.int (own_b ((0 : Int32) < (0 : Int32)))), .val (.int (own_b (((own_pl (0 : Int32) nv) + mv) < (own_ps (0 : Int32) (0 : Int32) nv))))] [(.int (own_b ((0 : Int32) < (((0 : Int32) - mv) - nv)))), (.int (own_b (((own_pl (0 : Int32) nv) + mv) < (own_ps (0 : Int32) (0 : Int32) nv))))])) tZ → Steps p.tables e below (s₁.setTop (entryFrame m #[(.int p0), (.int p1), (.int p2), (.int p3)] maxLocals)) tZ := fun tZ kZ => pre173 tZ (by
          by_cases hc174 : (0 : Int32) < (((0 : Int32) - mv) - nv)
          ·  -- yes
            show Steps p.tables e below (T172.setTop (mkF m 189 #[.val (.int p0), .val (.int p1), .val (.int p2), .val (.int p3), .val (.int (1 : Int32)), .val (.int (own_b (¬ ((p0 &&& (2 : Int32)) = (0 : Int32))))), .val (.int (0 : Int32)), .val (.int mv), .val (.int nv), .val (.ref b155), .val (.int (own_b ((0 : Int32) < (0 : Int32)))), .val (.int (own_b (((own_pl (0 : Int32) nv) + mv) < (own_ps (0 : Int32) (0 : Int32) nv))))] [(.int (((0 : Int32) - mv) - nv)), (.int (own_b (((own_pl (0 : Int32) nv) + mv) < (own_ps (0 : Int32) (0 : Int32) nv))))])) _
            refine XS.ifNo X172.here hx rfl (hb hby at_189) rfl ((if0 _ _).trans (tlt hc174).2.2.2) ?_
            show Steps p.tables e below (T172.setTop (mkF m 192 #[.val (.int p0), .val (.int p1), .val (.int p2), .val (.int p3), .val (.int (1 : Int32)), .val (.int (own_b (¬ ((p0 &&& (2 : Int32)) = (0 : Int32))))), .val (.int (0 : Int32)), .val (.int mv), .val (.int nv), .val (.ref b155), .val (.int (own_b ((0 : Int32) < (0 : Int32)))), .val (.int (own_b (((own_pl (0 : Int32) nv) + mv) < (own_ps (0 : Int32) (0 : Int32) nv))))] [(.int (own_b (((own_pl (0 : Int32) nv) + mv) < (own_ps (0 : Int32) (0 : Int32) nv))))])) _
            refine XS.iconst X172.here hx rfl (hb hby at_192) ?_
            show Steps p.tables e below (T172.setTop (mkF m 193 #[.val (.int p0), .val (.int p1), .val (.int p2), .val (.int p3), .val (.int (1 : Int32)), .val (.int (own_b (¬ ((p0 &&& (2 : Int32)) = (0 : Int32))))), .val (.int (0 : Int32)), .val (.int mv), .val (.int nv), .val (.ref b155), .val (.int (own_b ((0 : Int32) < (0 : Int32)))), .val (.int (own_b (((own_pl (0 : Int32) nv) + mv) < (own_ps (0 : Int32) (0 : Int32) nv))))] [(.int (1 : Int32)), (.int (own_b (((own_pl (0 : Int32) nv) + mv) < (own_ps (0 : Int32) (0 : Int32) nv))))])) _
            refine XS.goto X172.here hx rfl (pc0 := 193) (pc' := 197) rfl (hb hby at_193) (by decide) (by decide) ?_
            have ekZ : (own_b ((0 : Int32) < (((0 : Int32) - mv) - nv))) = (1 : Int32) := by first | (simp only [own_b, eq_true hc174, and_true, true_and, and_false, false_and, or_true, true_or, or_false, false_or, not_true_eq_false, not_false_eq_true, if_true, if_false, reduceIte]; done) | (simp [own_b, hc174]; done)
            rw [ekZ] at kZ
            exact kZ
          ·  -- no
            show Steps p.tables e below (T172.setTop (mkF m 189 #[.val (.int p0), .val (.int p1), .val (.int p2), .val (.int p3), .val (.int (1 : Int32)), .val (.int (own_b (¬ ((p0 &&& (2 : Int32)) = (0 : Int32))))), .val (.int (0 : Int32)), .val (.int mv), .val (.int nv), .val (.ref b155), .val (.int (own_b ((0 : Int32) < (0 : Int32)))), .val (.int (own_b (((own_pl (0 : Int32) nv) + mv) < (own_ps (0 : Int32) (0 : Int32) nv))))] [(.int (((0 : Int32) - mv) - nv)), (.int (own_b (((own_pl (0 : Int32) nv) + mv) < (own_ps (0 : Int32) (0 : Int32) nv))))])) _
            refine XS.ifYes X172.here hx rfl (pc0 := 189) (pc' := 196) rfl (hb hby at_189) rfl ((if0 _ _).trans (flt hc174).2.2.2) (by decide) (by decide) ?_
            show Steps p.tables e below (T172.setTop (mkF m 196 #[.val (.int p0), .val (.int p1), .val (.int p2), .val (.int p3), .val (.int (1 : Int32)), .val (.int (own_b (¬ ((p0 &&& (2 : Int32)) = (0 : Int32))))), .val (.int (0 : Int32)), .val (.int mv), .val (.int nv), .val (.ref b155), .val (.int (own_b ((0 : Int32) < (0 : Int32)))), .val (.int (own_b (((own_pl (0 : Int32) nv) + mv) < (own_ps (0 : Int32) (0 : Int32) nv))))] [(.int (own_b (((own_pl (0 : Int32) nv) + mv) < (own_ps (0 : Int32) (0 : Int32) nv))))])) _
            refine XS.iconst X172.here hx rfl (hb hby at_196) ?_
            have ekZ : (own_b ((0 : Int32) < (((0 : Int32) - mv) - nv))) = (0 : Int32) := by first | (simp only [own_b, eq_false hc174, and_true, true_and, and_false, false_and, or_true, true_or, or_false, false_or, not_true_eq_false, not_false_eq_true, if_true, if_false, reduceIte]; done) | (simp [own_b, hc174]; done)
            rw [ekZ] at kZ
            exact kZ)
        obtain ⟨fsZ, hrZ, hrun, hended, hW, hsame⟩ := X172.leave (v := some (.int (1 : Int32))) (fun h => by rw [Bd.returns] at h; cases h)
        refine ⟨_, _, pre175 _ ?_, hrun, hended, _, _, rfl, ?_, ⟨_, rfl⟩, hW, hsame.mono (by decide) (by decide)⟩
        · show Steps p.tables e below (T172.setTop (mkF m 197 #[.val (.int p0), .val (.int p1), .val (.int p2), .val (.int p3), .val (.int (1 : Int32)), .val (.int (own_b (¬ ((p0 &&& (2 : Int32)) = (0 : Int32))))), .val (.int (0 : Int32)), .val (.int mv), .val (.int nv), .val (.ref b155), .val (.int (own_b ((0 : Int32) < (0 : Int32)))), .val (.int (own_b (((own_pl (0 : Int32) nv) + mv) < (own_ps (0 : Int32) (0 : Int32) nv))))] [(.int (own_b ((0 : Int32) < (((0 : Int32) - mv) - nv)))), (.int (own_b (((own_pl (0 : Int32) nv) + mv) < (own_ps (0 : Int32) (0 : Int32) nv))))])) _
          refine XS.icmpNo X172.here hx rfl (hb hby at_197) rfl (teq (own_fin_p (by decide) hm4 hn4 hm3.2.2 hn3.2.2)).2 ?_
          show Steps p.tables e below (T172.setTop (mkF m 200 #[.val (.int p0), .val (.int p1), .val (.int p2), .val (.int p3), .val (.int (1 : Int32)), .val (.int (own_b (¬ ((p0 &&& (2 : Int32)) = (0 : Int32))))), .val (.int (0 : Int32)), .val (.int mv), .val (.int nv), .val (.ref b155), .val (.int (own_b ((0 : Int32) < (0 : Int32)))), .val (.int (own_b (((own_pl (0 : Int32) nv) + mv) < (own_ps (0 : Int32) (0 : Int32) nv))))] [])) _
          refine XS.iconst X172.here hx rfl (hb hby at_200) ?_
          show Steps p.tables e below (T172.setTop (mkF m 201 #[.val (.int p0), .val (.int p1), .val (.int p2), .val (.int p3), .val (.int (1 : Int32)), .val (.int (own_b (¬ ((p0 &&& (2 : Int32)) = (0 : Int32))))), .val (.int (0 : Int32)), .val (.int mv), .val (.int nv), .val (.ref b155), .val (.int (own_b ((0 : Int32) < (0 : Int32)))), .val (.int (own_b (((own_pl (0 : Int32) nv) + mv) < (own_ps (0 : Int32) (0 : Int32) nv))))] [(.int (1 : Int32))])) _
          refine XS.goto X172.here hx rfl (pc0 := 201) (pc' := 205) rfl (hb hby at_201) (by decide) (by decide) ?_
          show Steps p.tables e below (T172.setTop (mkF m 205 #[.val (.int p0), .val (.int p1), .val (.int p2), .val (.int p3), .val (.int (1 : Int32)), .val (.int (own_b (¬ ((p0 &&& (2 : Int32)) = (0 : Int32))))), .val (.int (0 : Int32)), .val (.int mv), .val (.int nv), .val (.ref b155), .val (.int (own_b ((0 : Int32) < (0 : Int32)))), .val (.int (own_b (((own_pl (0 : Int32) nv) + mv) < (own_ps (0 : Int32) (0 : Int32) nv))))] [(.int (1 : Int32))])) _
          exact retN X172 hx (t := .boolean) Bd.returns (by simp) (hb hby at_205) hrZ
        · show Q0 Z p0 p1 p2 p3 h0 n0 _ T172.heap _
          rw [e172]
          exact ⟨rfl, N172⟩
      ·  -- no
        obtain ⟨_, _, ⟨T176, L176, k176, n176⟩, -, X176, ⟨Lc176, hQ176, l176, y176, z176⟩, st176⟩ := Jvm.LawKit.callS X164 hx (y := (⟨oL, "doMarks", "(Lcom/example/portunus/portunus/policy/Run;I)V"⟩ : MethodName)) hown (mvT hZ (ow hw 45 rfl)) (mvT hZ (ow hw 46 rfl)) (mvT hZ (ow hw 47 rfl)) (mvT hZ (ow hw 48 rfl)) (by decide) (backOf (W := 0) (rm8d l Z a0 hw [] b155 mv tk_158 (0 : Int32) (0 : Int32) (0 : Int32) kt_159 dd_160 T157.heap n0 Z161 f157_0 f157_1 f157_2 f157_3 f157_4 f157_5 f157_6 gn_b155 u157_0 ne162 f157_7 u157_2 ne163 u157_4 hm4) hZ (ow hw 48 rfl) (ow hw 47 rfl) (by decide) (by decide)) (g := (mkF m 147 #[.val (.int p0), .val (.int p1), .val (.int p2), .val (.int p3), .val (.int (1 : Int32)), .val (.int (own_b (¬ ((p0 &&& (2 : Int32)) = (0 : Int32))))), .val (.int (0 : Int32)), .val (.int mv), .val (.int nv), .val (.ref b155), .val (.int (own_b ((0 : Int32) < (0 : Int32)))), .unset] [(.int mv), (.ref b155)])) rfl (by rw [hml]; rfl) (argsL := [(.ref b155), (.int mv)]) (rest := []) (lenOf pd9 rfl) rfl (by show 2 * 0 + _ ≤ _; exact Nat.le_of_eq rfl) (hb hby at_147) (fun _ _ => ⟨rfl, e164, (by decide : 3 + 0 ≤ _), (by decide : 21 + 0 ≤ _)⟩)
        dsimp only [Pt.U, Pt.locs, Pt.cells, Pt.slots] at X176 l176 y176 z176 st176 hQ176
        subst l176 y176 z176
        obtain ⟨rfl, N176q, K176, f176_0, f176_1, f176_2, f176_3, f176_4, f176_5, f176_6, f176_7⟩ := hQ176
        have N176 := Fr.app N164 N176q
        have Z177 : n0 ≤ T176.heap.size := Nat.le_trans Z161 K176.1
        obtain ⟨_, _, ⟨T178, L178, k178, n178⟩, -, X178, ⟨Lc178, hQ178, l178, y178, z178⟩, st178⟩ := Jvm.LawKit.callS X176 hx (y := (⟨oL, "doPolls", "(Lcom/example/portunus/portunus/policy/Run;I)V"⟩ : MethodName)) hown (mvT hZ (ow hw 54 rfl)) (mvT hZ (ow hw 55 rfl)) (mvT hZ (ow hw 47 rfl)) (mvT hZ (ow hw 56 rfl)) (by decide) (backOf (W := 0) (rm10d l Z a0 hw [] b155 nv tk_158 (0 : Int32) ((0 : Int32) + mv) (0 : Int32) kt_159 dd_160 T176.heap n0 Z177 f176_0 f176_1 f176_2 f176_3 f176_4 f176_5 f176_6 gn_b155 u157_0 ne162 f176_7 u157_2 ne163 u157_4 hn4 (own_nz1 hm4)) hZ (ow hw 56 rfl) (ow hw 47 rfl) (by decide) (by decide)) (g := (mkF m 154 #[.val (.int p0), .val (.int p1), .val (.int p2), .val (.int p3), .val (.int (1 : Int32)), .val (.int (own_b (¬ ((p0 &&& (2 : Int32)) = (0 : Int32))))), .val (.int (0 : Int32)), .val (.int mv), .val (.int nv), .val (.ref b155), .val (.int (own_b ((0 : Int32) < (0 : Int32)))), .unset] [(.int nv), (.ref b155)])) rfl (by rw [hml]; rfl) (argsL := [(.ref b155), (.int nv)]) (rest := []) (lenOf pd9 rfl) rfl (by show 2 * 0 + _ ≤ _; exact Nat.le_of_eq rfl) (hb hby at_154) (fun _ _ => ⟨rfl, rfl, (by decide : 3 + 0 ≤ _), (by decide : 21 + 0 ≤ _)⟩)
        dsimp only [Pt.U, Pt.locs, Pt.cells, Pt.slots] at X178 l178 y178 z178 st178 hQ178
        subst l178 y178 z178
        obtain ⟨fn_179, rfl, N178q, K178, f178_0, f178_1, f178_2, f178_3, f178_4, f178_5, f178_6, f178_7⟩ := hQ178
        have N178 := Fr.app N176 N178q
        have Z180 : n0 ≤ T178.heap.size := Nat.le_trans Z177 K178.1
        obtain ⟨cq181, kq181, q181a, q181b, q181c⟩ := isOf hZ rfl f178_0
        obtain ⟨_, _, ⟨T181, L181, k181, n181⟩, -, X181, ⟨Lc181, hQ181, l181, y181, z181⟩, st181⟩ := X178.virtualBack hx (y := (⟨oR, "hasOther", "()Z"⟩ : MethodName)) (z := (⟨oR, "hasOther", "()Z"⟩ : MethodName)) hown (mvT hZ (ow hw 38 rfl)) (mvT hZ (ow hw 39 rfl)) (notFace_of_selects (args := #[]) (mvT hZ (ow hw 41 rfl))) (mvT hZ (ow hw 41 rfl)) (mvT hZ (ow hw 40 rfl)) (by decide) (backOf (W := 0) (rm7 l Z a0 hw [] b155 (own_ps ((0 : Int32) + mv) (0 : Int32) nv) (own_pl ((0 : Int32) + mv) nv) T178.heap n0 Z180 f178_3 f178_4) hZ (ow hw 42 rfl) (ow hw 7 rfl) (by decide) (by decide)) q181a q181c (g := (mkF m 159 #[.val (.int p0), .val (.int p1), .val (.int p2), .val (.int p3), .val (.int (1 : Int32)), .val (.int (own_b (¬ ((p0 &&& (2 : Int32)) = (0 : Int32))))), .val (.int (0 : Int32)), .val (.int mv), .val (.int nv), .val (.ref b155), .val (.int (own_b ((0 : Int32) < (0 : Int32)))), .unset] [(.ref b155)])) rfl (by rw [hml]; rfl) (Steps.refl _) (argsL := []) (rest := []) (lenOf pd8 rfl) rfl (by show 2 * 0 + _ ≤ _; exact Nat.le_of_eq rfl) (hb hby at_159) (fun _ _ => ⟨rfl, rfl, (by decide : 3 + 0 ≤ _), (by decide : 21 + 0 ≤ _)⟩)
        dsimp only [Pt.U, Pt.locs, Pt.cells, Pt.slots] at X181 l181 y181 z181 st181 hQ181
        subst l181 y181 z181
        obtain ⟨rfl, N181q, e181⟩ := hQ181
        have N181 := Fr.app N178 N181q
        have pre182 : ∀ tZ, Steps p.tables e below (T181.setTop (mkF m 189 #[.val (.int p0), .val (.int p1), .val (.int p2), .val (.int p3), .val (.int (1 : Int32)), .val (.int (own_b (¬ ((p0 &&& (2 : Int32)) = (0 : Int32))))), .val (.int (0 : Int32)), .val (.int mv), .val (.int nv), .val (.ref b155), .val (.int (own_b ((0 : Int32) < (0 : Int32)))), .val (.int (own_b ((own_pl ((0 : Int32) + mv) nv) < (own_ps ((0 : Int32) + mv) (0 : Int32) nv))))] [(.int (((0 : Int32) - mv) - nv)), (.int (own_b ((own_pl ((0 : Int32) + mv) nv) < (own_ps ((0 : Int32) + mv) (0 : Int32) nv))))])) tZ → Steps p.tables e below (s₁.setTop (entryFrame m #[(.int p0), (.int p1), (.int p2), (.int p3)] maxLocals)) tZ := fun tZ kZ => pre165 tZ (by
          show Steps p.tables e below (T164.setTop (mkF m 123 #[.val (.int p0), .val (.int p1), .val (.int p2), .val (.int p3), .val (.int (1 : Int32)), .val (.int (own_b (¬ ((p0 &&& (2 : Int32)) = (0 : Int32))))), .val (.int (0 : Int32)), .val (.int mv), .val (.int nv), .val (.ref b155), .val (.int (own_b ((0 : Int32) < (0 : Int32)))), .unset] [(.int (own_b (¬ ((p0 &&& (2 : Int32)) = (0 : Int32)))))])) _
          refine XS.ifYes X164.here hx rfl (pc0 := 123) (pc' := 143) rfl (hb hby at_123) rfl ((if0 _ _).trans (teq (own_b_f hc166)).1) (by decide) (by decide) ?_
          show Steps p.tables e below (T164.setTop (mkF m 143 #[.val (.int p0), .val (.int p1), .val (.int p2), .val (.int p3), .val (.int (1 : Int32)), .val (.int (own_b (¬ ((p0 &&& (2 : Int32)) = (0 : Int32))))), .val (.int (0 : Int32)), .val (.int mv), .val (.int nv), .val (.ref b155), .val (.int (own_b ((0 : Int32) < (0 : Int32)))), .unset] [])) _
          refine XS.aload X164.here hx rfl (hb hby at_143) rfl rfl ?_
          show Steps p.tables e below (T164.setTop (mkF m 145 #[.val (.int p0), .val (.int p1), .val (.int p2), .val (.int p3), .val (.int (1 : Int32)), .val (.int (own_b (¬ ((p0 &&& (2 : Int32)) = (0 : Int32))))), .val (.int (0 : Int32)), .val (.int mv), .val (.int nv), .val (.ref b155), .val (.int (own_b ((0 : Int32) < (0 : Int32)))), .unset] [(.ref b155)])) _
          refine XS.iload X164.here hx rfl (hb hby at_145) rfl  ?_
          show Steps p.tables e below (T164.setTop (mkF m 147 #[.val (.int p0), .val (.int p1), .val (.int p2), .val (.int p3), .val (.int (1 : Int32)), .val (.int (own_b (¬ ((p0 &&& (2 : Int32)) = (0 : Int32))))), .val (.int (0 : Int32)), .val (.int mv), .val (.int nv), .val (.ref b155), .val (.int (own_b ((0 : Int32) < (0 : Int32)))), .unset] [(.int mv), (.ref b155)])) _
          refine st176 _ ?_
          show Steps p.tables e below (T176.setTop (mkF m 150 #[.val (.int p0), .val (.int p1), .val (.int p2), .val (.int p3), .val (.int (1 : Int32)), .val (.int (own_b (¬ ((p0 &&& (2 : Int32)) = (0 : Int32))))), .val (.int (0 : Int32)), .val (.int mv), .val (.int nv), .val (.ref b155), .val (.int (own_b ((0 : Int32) < (0 : Int32)))), .unset] [])) _
          refine XS.aload X176.here hx rfl (hb hby at_150) rfl rfl ?_
          show Steps p.tables e below (T176.setTop (mkF m 152 #[.val (.int p0), .val (.int p1), .val (.int p2), .val (.int p3), .val (.int (1 : Int32)), .val (.int (own_b (¬ ((p0 &&& (2 : Int32)) = (0 : Int32))))), .val (.int (0 : Int32)), .val (.int mv), .val (.int nv), .val (.ref b155), .val (.int (own_b ((0 : Int32) < (0 : Int32)))), .unset] [(.ref b155)])) _
          refine XS.iload X176.here hx rfl (hb hby at_152) rfl  ?_
          show Steps p.tables e below (T176.setTop (mkF m 154 #[.val (.int p0), .val (.int p1), .val (.int p2), .val (.int p3), .val (.int (1 : Int32)), .val (.int (own_b (¬ ((p0 &&& (2 : Int32)) = (0 : Int32))))), .val (.int (0 : Int32)), .val (.int mv), .val (.int nv), .val (.ref b155), .val (.int (own_b ((0 : Int32) < (0 : Int32)))), .unset] [(.int nv), (.ref b155)])) _
          refine st178 _ ?_
          show Steps p.tables e below (T178.setTop (mkF m 157 #[.val (.int p0), .val (.int p1), .val (.int p2), .val (.int p3), .val (.int (1 : Int32)), .val (.int (own_b (¬ ((p0 &&& (2 : Int32)) = (0 : Int32))))), .val (.int (0 : Int32)), .val (.int mv), .val (.int nv), .val (.ref b155), .val (.int (own_b ((0 : Int32) < (0 : Int32)))), .unset] [])) _
          refine XS.aload X178.here hx rfl (hb hby at_157) rfl rfl ?_
          show Steps p.tables e below (T178.setTop (mkF m 159 #[.val (.int p0), .val (.int p1), .val (.int p2), .val (.int p3), .val (.int (1 : Int32)), .val (.int (own_b (¬ ((p0 &&& (2 : Int32)) = (0 : Int32))))), .val (.int (0 : Int32)), .val (.int mv), .val (.int nv), .val (.ref b155), .val (.int (own_b ((0 : Int32) < (0 : Int32)))), .unset] [(.ref b155)])) _
          refine st181.trans ?_
          show Steps p.tables e below (T181.setTop (mkF m 162 #[.val (.int p0), .val (.int p1), .val (.int p2), .val (.int p3), .val (.int (1 : Int32)), .val (.int (own_b (¬ ((p0 &&& (2 : Int32)) = (0 : Int32))))), .val (.int (0 : Int32)), .val (.int mv), .val (.int nv), .val (.ref b155), .val (.int (own_b ((0 : Int32) < (0 : Int32)))), .unset] [(.int (own_b ((own_pl ((0 : Int32) + mv) nv) < (own_ps ((0 : Int32) + mv) (0 : Int32) nv))))])) _
          refine XS.istore X181.here hx rfl (hb hby at_162) rfl (l' := #[.val (.int p0), .val (.int p1), .val (.int p2), .val (.int p3), .val (.int (1 : Int32)), .val (.int (own_b (¬ ((p0 &&& (2 : Int32)) = (0 : Int32))))), .val (.int (0 : Int32)), .val (.int mv), .val (.int nv), .val (.ref b155), .val (.int (own_b ((0 : Int32) < (0 : Int32)))), .val (.int (own_b ((own_pl ((0 : Int32) + mv) nv) < (own_ps ((0 : Int32) + mv) (0 : Int32) nv))))]) rfl ?_
          show Steps p.tables e below (T181.setTop (mkF m 164 #[.val (.int p0), .val (.int p1), .val (.int p2), .val (.int p3), .val (.int (1 : Int32)), .val (.int (own_b (¬ ((p0 &&& (2 : Int32)) = (0 : Int32))))), .val (.int (0 : Int32)), .val (.int mv), .val (.int nv), .val (.ref b155), .val (.int (own_b ((0 : Int32) < (0 : Int32)))), .val (.int (own_b ((own_pl ((0 : Int32) + mv) nv) < (own_ps ((0 : Int32) + mv) (0 : Int32) nv))))] [])) _
          refine XS.iload X181.here hx rfl (hb hby at_164) rfl  ?_
          show Steps p.tables e below (T181.setTop (mkF m 166 #[.val (.int p0), .val (.int p1), .val (.int p2), .val (.int p3), .val (.int (1 : Int32)), .val (.int (own_b (¬ ((p0 &&& (2 : Int32)) = (0 : Int32))))), .val (.int (0 : Int32)), .val (.int mv), .val (.int nv), .val (.ref b155), .val (.int (own_b ((0 : Int32) < (0 : Int32)))), .val (.int (own_b ((own_pl ((0 : Int32) + mv) nv) < (own_ps ((0 : Int32) + mv) (0 : Int32) nv))))] [(.int (own_b ((0 : Int32) < (0 : Int32))))])) _
          refine XS.iload X181.here hx rfl (hb hby at_166) rfl  ?_
          show Steps p.tables e below (T181.setTop (mkF m 168 #[.val (.int p0), .val (.int p1), .val (.int p2), .val (.int p3), .val (.int (1 : Int32)), .val (.int (own_b (¬ ((p0 &&& (2 : Int32)) = (0 : Int32))))), .val (.int (0 : Int32)), .val (.int mv), .val (.int nv), .val (.ref b155), .val (.int (own_b ((0 : Int32) < (0 : Int32)))), .val (.int (own_b ((own_pl ((0 : Int32) + mv) nv) < (own_ps ((0 : Int32) + mv) (0 : Int32) nv))))] [(.int (0 : Int32)), (.int (own_b ((0 : Int32) < (0 : Int32))))])) _
          refine XS.ifYes X181.here hx rfl (pc0 := 168) (pc' := 175) rfl (hb hby at_168) rfl ((if0 _ _).trans (flt (by decide)).2.2.2) (by decide) (by decide) ?_
          show Steps p.tables e below (T181.setTop (mkF m 175 #[.val (.int p0), .val (.int p1), .val (.int p2), .val (.int p3), .val (.int (1 : Int32)), .val (.int (own_b (¬ ((p0 &&& (2 : Int32)) = (0 : Int32))))), .val (.int (0 : Int32)), .val (.int mv), .val (.int nv), .val (.ref b155), .val (.int (own_b ((0 : Int32) < (0 : Int32)))), .val (.int (own_b ((own_pl ((0 : Int32) + mv) nv) < (own_ps ((0 : Int32) + mv) (0 : Int32) nv))))] [(.int (own_b ((0 : Int32) < (0 : Int32))))])) _
          refine XS.iconst X181.here hx rfl (hb hby at_175) ?_
          show Steps p.tables e below (T181.setTop (mkF m 176 #[.val (.int p0), .val (.int p1), .val (.int p2), .val (.int p3), .val (.int (1 : Int32)), .val (.int (own_b (¬ ((p0 &&& (2 : Int32)) = (0 : Int32))))), .val (.int (0 : Int32)), .val (.int mv), .val (.int nv), .val (.ref b155), .val (.int (own_b ((0 : Int32) < (0 : Int32)))), .val (.int (own_b ((own_pl ((0 : Int32) + mv) nv) < (own_ps ((0 : Int32) + mv) (0 : Int32) nv))))] [(.int (0 : Int32)), (.int (own_b ((0 : Int32) < (0 : Int32))))])) _
          refine XS.icmpNo X181.here hx rfl (hb hby at_176) rfl (teq (by decide)).2 ?_
          show Steps p.tables e below (T181.setTop (mkF m 179 #[.val (.int p0), .val (.int p1), .val (.int p2), .val (.int p3), .val (.int (1 : Int32)), .val (.int (own_b (¬ ((p0 &&& (2 : Int32)) = (0 : Int32))))), .val (.int (0 : Int32)), .val (.int mv), .val (.int nv), .val (.ref b155), .val (.int (own_b ((0 : Int32) < (0 : Int32)))), .val (.int (own_b ((own_pl ((0 : Int32) + mv) nv) < (own_ps ((0 : Int32) + mv) (0 : Int32) nv))))] [])) _
          refine XS.iload X181.here hx rfl (hb hby at_179) rfl  ?_
          show Steps p.tables e below (T181.setTop (mkF m 181 #[.val (.int p0), .val (.int p1), .val (.int p2), .val (.int p3), .val (.int (1 : Int32)), .val (.int (own_b (¬ ((p0 &&& (2 : Int32)) = (0 : Int32))))), .val (.int (0 : Int32)), .val (.int mv), .val (.int nv), .val (.ref b155), .val (.int (own_b ((0 : Int32) < (0 : Int32)))), .val (.int (own_b ((own_pl ((0 : Int32) + mv) nv) < (own_ps ((0 : Int32) + mv) (0 : Int32) nv))))] [(.int (own_b ((own_pl ((0 : Int32) + mv) nv) < (own_ps ((0 : Int32) + mv) (0 : Int32) nv))))])) _
          refine XS.iload X181.here hx rfl (hb hby at_181) rfl  ?_
          show Steps p.tables e below (T181.setTop (mkF m 183 #[.val (.int p0), .val (.int p1), .val (.int p2), .val (.int p3), .val (.int (1 : Int32)), .val (.int (own_b (¬ ((p0 &&& (2 : Int32)) = (0 : Int32))))), .val (.int (0 : Int32)), .val (.int mv), .val (.int nv), .val (.ref b155), .val (.int (own_b ((0 : Int32) < (0 : Int32)))), .val (.int (own_b ((own_pl ((0 : Int32) + mv) nv) < (own_ps ((0 : Int32) + mv) (0 : Int32) nv))))] [(.int (0 : Int32)), (.int (own_b ((own_pl ((0 : Int32) + mv) nv) < (own_ps ((0 : Int32) + mv) (0 : Int32) nv))))])) _
          refine XS.iload X181.here hx rfl (hb hby at_183) rfl  ?_
          show Steps p.tables e below (T181.setTop (mkF m 185 #[.val (.int p0), .val (.int p1), .val (.int p2), .val (.int p3), .val (.int (1 : Int32)), .val (.int (own_b (¬ ((p0 &&& (2 : Int32)) = (0 : Int32))))), .val (.int (0 : Int32)), .val (.int mv), .val (.int nv), .val (.ref b155), .val (.int (own_b ((0 : Int32) < (0 : Int32)))), .val (.int (own_b ((own_pl ((0 : Int32) + mv) nv) < (own_ps ((0 : Int32) + mv) (0 : Int32) nv))))] [(.int mv), (.int (0 : Int32)), (.int (own_b ((own_pl ((0 : Int32) + mv) nv) < (own_ps ((0 : Int32) + mv) (0 : Int32) nv))))])) _
          refine XS.isub X181.here hx rfl (hb hby at_185) rfl ?_
          show Steps p.tables e below (T181.setTop (mkF m 186 #[.val (.int p0), .val (.int p1), .val (.int p2), .val (.int p3), .val (.int (1 : Int32)), .val (.int (own_b (¬ ((p0 &&& (2 : Int32)) = (0 : Int32))))), .val (.int (0 : Int32)), .val (.int mv), .val (.int nv), .val (.ref b155), .val (.int (own_b ((0 : Int32) < (0 : Int32)))), .val (.int (own_b ((own_pl ((0 : Int32) + mv) nv) < (own_ps ((0 : Int32) + mv) (0 : Int32) nv))))] [(.int ((0 : Int32) - mv)), (.int (own_b ((own_pl ((0 : Int32) + mv) nv) < (own_ps ((0 : Int32) + mv) (0 : Int32) nv))))])) _
          refine XS.iload X181.here hx rfl (hb hby at_186) rfl  ?_
          show Steps p.tables e below (T181.setTop (mkF m 188 #[.val (.int p0), .val (.int p1), .val (.int p2), .val (.int p3), .val (.int (1 : Int32)), .val (.int (own_b (¬ ((p0 &&& (2 : Int32)) = (0 : Int32))))), .val (.int (0 : Int32)), .val (.int mv), .val (.int nv), .val (.ref b155), .val (.int (own_b ((0 : Int32) < (0 : Int32)))), .val (.int (own_b ((own_pl ((0 : Int32) + mv) nv) < (own_ps ((0 : Int32) + mv) (0 : Int32) nv))))] [(.int nv), (.int ((0 : Int32) - mv)), (.int (own_b ((own_pl ((0 : Int32) + mv) nv) < (own_ps ((0 : Int32) + mv) (0 : Int32) nv))))])) _
          refine XS.isub X181.here hx rfl (hb hby at_188) rfl ?_
          exact kZ)
        have pre184 : ∀ tZ, Steps p.tables e below (T181.setTop (mkF m 197 #[.val (.int p0), .val (.int p1), .val (.int p2), .val (.int p3), .val (.int (1 : Int32)), .val (.int (own_b (¬ ((p0 &&& (2 : Int32)) = (0 : Int32))))), .val (.int (0 : Int32)), .val (.int mv), .val (.int nv), .val (.ref b155), .val (.int (own_b ((0 : Int32) < (0 : Int32)))), .val (.int (own_b ((own_pl ((0 : Int32) + mv) nv) < (own_ps ((0 : Int32) + mv) (0 : Int32) nv))))] [(.int (own_b ((0 : Int32) < (((0 : Int32) - mv) - nv)))), (.int (own_b ((own_pl ((0 : Int32) + mv) nv) < (own_ps ((0 : Int32) + mv) (0 : Int32) nv))))])) tZ → Steps p.tables e below (s₁.setTop (entryFrame m #[(.int p0), (.int p1), (.int p2), (.int p3)] maxLocals)) tZ := fun tZ kZ => pre182 tZ (by
          by_cases hc183 : (0 : Int32) < (((0 : Int32) - mv) - nv)
          ·  -- yes
            show Steps p.tables e below (T181.setTop (mkF m 189 #[.val (.int p0), .val (.int p1), .val (.int p2), .val (.int p3), .val (.int (1 : Int32)), .val (.int (own_b (¬ ((p0 &&& (2 : Int32)) = (0 : Int32))))), .val (.int (0 : Int32)), .val (.int mv), .val (.int nv), .val (.ref b155), .val (.int (own_b ((0 : Int32) < (0 : Int32)))), .val (.int (own_b ((own_pl ((0 : Int32) + mv) nv) < (own_ps ((0 : Int32) + mv) (0 : Int32) nv))))] [(.int (((0 : Int32) - mv) - nv)), (.int (own_b ((own_pl ((0 : Int32) + mv) nv) < (own_ps ((0 : Int32) + mv) (0 : Int32) nv))))])) _
            refine XS.ifNo X181.here hx rfl (hb hby at_189) rfl ((if0 _ _).trans (tlt hc183).2.2.2) ?_
            show Steps p.tables e below (T181.setTop (mkF m 192 #[.val (.int p0), .val (.int p1), .val (.int p2), .val (.int p3), .val (.int (1 : Int32)), .val (.int (own_b (¬ ((p0 &&& (2 : Int32)) = (0 : Int32))))), .val (.int (0 : Int32)), .val (.int mv), .val (.int nv), .val (.ref b155), .val (.int (own_b ((0 : Int32) < (0 : Int32)))), .val (.int (own_b ((own_pl ((0 : Int32) + mv) nv) < (own_ps ((0 : Int32) + mv) (0 : Int32) nv))))] [(.int (own_b ((own_pl ((0 : Int32) + mv) nv) < (own_ps ((0 : Int32) + mv) (0 : Int32) nv))))])) _
            refine XS.iconst X181.here hx rfl (hb hby at_192) ?_
            show Steps p.tables e below (T181.setTop (mkF m 193 #[.val (.int p0), .val (.int p1), .val (.int p2), .val (.int p3), .val (.int (1 : Int32)), .val (.int (own_b (¬ ((p0 &&& (2 : Int32)) = (0 : Int32))))), .val (.int (0 : Int32)), .val (.int mv), .val (.int nv), .val (.ref b155), .val (.int (own_b ((0 : Int32) < (0 : Int32)))), .val (.int (own_b ((own_pl ((0 : Int32) + mv) nv) < (own_ps ((0 : Int32) + mv) (0 : Int32) nv))))] [(.int (1 : Int32)), (.int (own_b ((own_pl ((0 : Int32) + mv) nv) < (own_ps ((0 : Int32) + mv) (0 : Int32) nv))))])) _
            refine XS.goto X181.here hx rfl (pc0 := 193) (pc' := 197) rfl (hb hby at_193) (by decide) (by decide) ?_
            have ekZ : (own_b ((0 : Int32) < (((0 : Int32) - mv) - nv))) = (1 : Int32) := by first | (simp only [own_b, eq_true hc183, and_true, true_and, and_false, false_and, or_true, true_or, or_false, false_or, not_true_eq_false, not_false_eq_true, if_true, if_false, reduceIte]; done) | (simp [own_b, hc183]; done)
            rw [ekZ] at kZ
            exact kZ
          ·  -- no
            show Steps p.tables e below (T181.setTop (mkF m 189 #[.val (.int p0), .val (.int p1), .val (.int p2), .val (.int p3), .val (.int (1 : Int32)), .val (.int (own_b (¬ ((p0 &&& (2 : Int32)) = (0 : Int32))))), .val (.int (0 : Int32)), .val (.int mv), .val (.int nv), .val (.ref b155), .val (.int (own_b ((0 : Int32) < (0 : Int32)))), .val (.int (own_b ((own_pl ((0 : Int32) + mv) nv) < (own_ps ((0 : Int32) + mv) (0 : Int32) nv))))] [(.int (((0 : Int32) - mv) - nv)), (.int (own_b ((own_pl ((0 : Int32) + mv) nv) < (own_ps ((0 : Int32) + mv) (0 : Int32) nv))))])) _
            refine XS.ifYes X181.here hx rfl (pc0 := 189) (pc' := 196) rfl (hb hby at_189) rfl ((if0 _ _).trans (flt hc183).2.2.2) (by decide) (by decide) ?_
            show Steps p.tables e below (T181.setTop (mkF m 196 #[.val (.int p0), .val (.int p1), .val (.int p2), .val (.int p3), .val (.int (1 : Int32)), .val (.int (own_b (¬ ((p0 &&& (2 : Int32)) = (0 : Int32))))), .val (.int (0 : Int32)), .val (.int mv), .val (.int nv), .val (.ref b155), .val (.int (own_b ((0 : Int32) < (0 : Int32)))), .val (.int (own_b ((own_pl ((0 : Int32) + mv) nv) < (own_ps ((0 : Int32) + mv) (0 : Int32) nv))))] [(.int (own_b ((own_pl ((0 : Int32) + mv) nv) < (own_ps ((0 : Int32) + mv) (0 : Int32) nv))))])) _
            refine XS.iconst X181.here hx rfl (hb hby at_196) ?_
            have ekZ : (own_b ((0 : Int32) < (((0 : Int32) - mv) - nv))) = (0 : Int32) := by first | (simp only [own_b, eq_false hc183, and_true, true_and, and_false, false_and, or_true, true_or, or_false, false_or, not_true_eq_false, not_false_eq_true, if_true, if_false, reduceIte]; done) | (simp [own_b, hc183]; done)
            rw [ekZ] at kZ
            exact kZ)
        obtain ⟨fsZ, hrZ, hrun, hended, hW, hsame⟩ := X181.leave (v := some (.int (1 : Int32))) (fun h => by rw [Bd.returns] at h; cases h)
        refine ⟨_, _, pre184 _ ?_, hrun, hended, _, _, rfl, ?_, ⟨_, rfl⟩, hW, hsame.mono (by decide) (by decide)⟩
        · show Steps p.tables e below (T181.setTop (mkF m 197 #[.val (.int p0), .val (.int p1), .val (.int p2), .val (.int p3), .val (.int (1 : Int32)), .val (.int (own_b (¬ ((p0 &&& (2 : Int32)) = (0 : Int32))))), .val (.int (0 : Int32)), .val (.int mv), .val (.int nv), .val (.ref b155), .val (.int (own_b ((0 : Int32) < (0 : Int32)))), .val (.int (own_b ((own_pl ((0 : Int32) + mv) nv) < (own_ps ((0 : Int32) + mv) (0 : Int32) nv))))] [(.int (own_b ((0 : Int32) < (((0 : Int32) - mv) - nv)))), (.int (own_b ((own_pl ((0 : Int32) + mv) nv) < (own_ps ((0 : Int32) + mv) (0 : Int32) nv))))])) _
          refine XS.icmpNo X181.here hx rfl (hb hby at_197) rfl (teq (own_fin_m (by decide) hm4 hn4 hm3.2.2 hn3.2.2)).2 ?_
          show Steps p.tables e below (T181.setTop (mkF m 200 #[.val (.int p0), .val (.int p1), .val (.int p2), .val (.int p3), .val (.int (1 : Int32)), .val (.int (own_b (¬ ((p0 &&& (2 : Int32)) = (0 : Int32))))), .val (.int (0 : Int32)), .val (.int mv), .val (.int nv), .val (.ref b155), .val (.int (own_b ((0 : Int32) < (0 : Int32)))), .val (.int (own_b ((own_pl ((0 : Int32) + mv) nv) < (own_ps ((0 : Int32) + mv) (0 : Int32) nv))))] [])) _
          refine XS.iconst X181.here hx rfl (hb hby at_200) ?_
          show Steps p.tables e below (T181.setTop (mkF m 201 #[.val (.int p0), .val (.int p1), .val (.int p2), .val (.int p3), .val (.int (1 : Int32)), .val (.int (own_b (¬ ((p0 &&& (2 : Int32)) = (0 : Int32))))), .val (.int (0 : Int32)), .val (.int mv), .val (.int nv), .val (.ref b155), .val (.int (own_b ((0 : Int32) < (0 : Int32)))), .val (.int (own_b ((own_pl ((0 : Int32) + mv) nv) < (own_ps ((0 : Int32) + mv) (0 : Int32) nv))))] [(.int (1 : Int32))])) _
          refine XS.goto X181.here hx rfl (pc0 := 201) (pc' := 205) rfl (hb hby at_201) (by decide) (by decide) ?_
          show Steps p.tables e below (T181.setTop (mkF m 205 #[.val (.int p0), .val (.int p1), .val (.int p2), .val (.int p3), .val (.int (1 : Int32)), .val (.int (own_b (¬ ((p0 &&& (2 : Int32)) = (0 : Int32))))), .val (.int (0 : Int32)), .val (.int mv), .val (.int nv), .val (.ref b155), .val (.int (own_b ((0 : Int32) < (0 : Int32)))), .val (.int (own_b ((own_pl ((0 : Int32) + mv) nv) < (own_ps ((0 : Int32) + mv) (0 : Int32) nv))))] [(.int (1 : Int32))])) _
          exact retN X181 hx (t := .boolean) Bd.returns (by simp) (hb hby at_205) hrZ
        · show Q0 Z p0 p1 p2 p3 h0 n0 _ T181.heap _
          rw [e181]
          exact ⟨rfl, N181⟩
    ·  -- a = 1
      obtain ⟨_, _, ⟨T185, L185, k185, n185⟩, -, X185, ⟨Lc185, hQ185, l185, y185, z185⟩, st185⟩ := Jvm.LawKit.callS X0 hx (y := (⟨"java/lang/Math", "min", "(II)I"⟩ : MethodName)) hown (mvT hZ (ow hw 1 rfl)) (mvT hZ (ow hw 2 rfl)) (mvT hZ (ow hw 3 rfl)) (mvT hZ (ow hw 4 rfl)) (by decide) (backOf (W := 0) (rm1 l Z a0 hw [] ((p2 &&& (2147483647 : Int32)) % (3 : Int32)) (1 : Int32) h0 n0 Z0 ) hZ (ow hw 4 rfl) (ow hw 3 rfl) (by decide) (by decide)) (g := (mkF m 39 #[.val (.int p0), .val (.int p1), .val (.int p2), .val (.int p3), .val (.int (1 : Int32)), .val (.int (own_b (¬ ((p0 &&& (2 : Int32)) = (0 : Int32))))), .val (.int (1 : Int32)), .unset, .unset, .unset, .unset, .unset] [(.int (1 : Int32)), (.int ((p2 &&& (2147483647 : Int32)) % (3 : Int32)))])) rfl (by rw [hml]; rfl) (argsL := [(.int ((p2 &&& (2147483647 : Int32)) % (3 : Int32))), (.int (1 : Int32))]) (rest := []) (lenOf pd6 rfl) rfl (by show 2 * 0 + _ ≤ _; exact Nat.le_of_eq rfl) (hb hby at_39) (fun _ _ => ⟨rfl, e0, (by decide : 0 + 0 ≤ _), (by decide : 0 + 0 ≤ _)⟩)
      dsimp only [Pt.U, Pt.locs, Pt.cells, Pt.slots] at X185 l185 y185 z185 st185 hQ185
      subst l185 y185 z185
      obtain ⟨rfl, N185q, e185⟩ := hQ185
      have N185 := Fr.app N0 N185q
      have pre186 : ∀ tZ, Steps p.tables e below (T185.setTop (mkF m 44 #[.val (.int p0), .val (.int p1), .val (.int p2), .val (.int p3), .val (.int (1 : Int32)), .val (.int (own_b (¬ ((p0 &&& (2 : Int32)) = (0 : Int32))))), .val (.int (1 : Int32)), .val (.int (if (1 : Int32) < ((p2 &&& (2147483647 : Int32)) % (3 : Int32)) then (1 : Int32) else ((p2 &&& (2147483647 : Int32)) % (3 : Int32)))), .unset, .unset, .unset, .unset] [])) tZ → Steps p.tables e below (s₁.setTop (entryFrame m #[(.int p0), (.int p1), (.int p2), (.int p3)] maxLocals)) tZ := fun tZ kZ => pre150 tZ (by
        show Steps p.tables e below (s₁.setTop (mkF m 31 #[.val (.int p0), .val (.int p1), .val (.int p2), .val (.int p3), .val (.int (1 : Int32)), .val (.int (own_b (¬ ((p0 &&& (2 : Int32)) = (0 : Int32))))), .val (.int (1 : Int32)), .unset, .unset, .unset, .unset, .unset] [])) _
        refine XS.iloadN X0.here hx rfl (hb hby at_31) rfl  ?_
        show Steps p.tables e below (s₁.setTop (mkF m 32 #[.val (.int p0), .val (.int p1), .val (.int p2), .val (.int p3), .val (.int (1 : Int32)), .val (.int (own_b (¬ ((p0 &&& (2 : Int32)) = (0 : Int32))))), .val (.int (1 : Int32)), .unset, .unset, .unset, .unset, .unset] [(.int p2)])) _
        refine X0.ldcInt hx hown (mvT hZ (ow hw 0 rfl)) (g := (mkF m 32 #[.val (.int p0), .val (.int p1), .val (.int p2), .val (.int p3), .val (.int (1 : Int32)), .val (.int (own_b (¬ ((p0 &&& (2 : Int32)) = (0 : Int32))))), .val (.int (1 : Int32)), .unset, .unset, .unset, .unset, .unset] [(.int p2)])) rfl (hb hby at_32) _ ?_
        show Steps p.tables e below (s₁.setTop (mkF m 34 #[.val (.int p0), .val (.int p1), .val (.int p2), .val (.int p3), .val (.int (1 : Int32)), .val (.int (own_b (¬ ((p0 &&& (2 : Int32)) = (0 : Int32))))), .val (.int (1 : Int32)), .unset, .unset, .unset, .unset, .unset] [(.int (2147483647 : Int32)), (.int p2)])) _
        refine XS.iand X0.here hx rfl (hb hby at_34) rfl ?_
        show Steps p.tables e below (s₁.setTop (mkF m 35 #[.val (.int p0), .val (.int p1), .val (.int p2), .val (.int p3), .val (.int (1 : Int32)), .val (.int (own_b (¬ ((p0 &&& (2 : Int32)) = (0 : Int32))))), .val (.int (1 : Int32)), .unset, .unset, .unset, .unset, .unset] [(.int (p2 &&& (2147483647 : Int32)))])) _
        refine XS.iconst X0.here hx rfl (hb hby at_35) ?_
        show Steps p.tables e below (s₁.setTop (mkF m 36 #[.val (.int p0), .val (.int p1), .val (.int p2), .val (.int p3), .val (.int (1 : Int32)), .val (.int (own_b (¬ ((p0 &&& (2 : Int32)) = (0 : Int32))))), .val (.int (1 : Int32)), .unset, .unset, .unset, .unset, .unset] [(.int (3 : Int32)), (.int (p2 &&& (2147483647 : Int32)))])) _
        refine iremM X0 hx rfl (hb hby at_36) rfl (by decide) ?_
        show Steps p.tables e below (s₁.setTop (mkF m 37 #[.val (.int p0), .val (.int p1), .val (.int p2), .val (.int p3), .val (.int (1 : Int32)), .val (.int (own_b (¬ ((p0 &&& (2 : Int32)) = (0 : Int32))))), .val (.int (1 : Int32)), .unset, .unset, .unset, .unset, .unset] [(.int ((p2 &&& (2147483647 : Int32)) % (3 : Int32)))])) _
        refine XS.iload X0.here hx rfl (hb hby at_37) rfl  ?_
        show Steps p.tables e below (s₁.setTop (mkF m 39 #[.val (.int p0), .val (.int p1), .val (.int p2), .val (.int p3), .val (.int (1 : Int32)), .val (.int (own_b (¬ ((p0 &&& (2 : Int32)) = (0 : Int32))))), .val (.int (1 : Int32)), .unset, .unset, .unset, .unset, .unset] [(.int (1 : Int32)), (.int ((p2 &&& (2147483647 : Int32)) % (3 : Int32)))])) _
        refine st185 _ ?_
        show Steps p.tables e below (T185.setTop (mkF m 42 #[.val (.int p0), .val (.int p1), .val (.int p2), .val (.int p3), .val (.int (1 : Int32)), .val (.int (own_b (¬ ((p0 &&& (2 : Int32)) = (0 : Int32))))), .val (.int (1 : Int32)), .unset, .unset, .unset, .unset, .unset] [(.int (if (1 : Int32) < ((p2 &&& (2147483647 : Int32)) % (3 : Int32)) then (1 : Int32) else ((p2 &&& (2147483647 : Int32)) % (3 : Int32))))])) _
        refine XS.istore X185.here hx rfl (hb hby at_42) rfl (l' := #[.val (.int p0), .val (.int p1), .val (.int p2), .val (.int p3), .val (.int (1 : Int32)), .val (.int (own_b (¬ ((p0 &&& (2 : Int32)) = (0 : Int32))))), .val (.int (1 : Int32)), .val (.int (if (1 : Int32) < ((p2 &&& (2147483647 : Int32)) % (3 : Int32)) then (1 : Int32) else ((p2 &&& (2147483647 : Int32)) % (3 : Int32)))), .unset, .unset, .unset, .unset]) rfl ?_
        exact kZ)
      obtain ⟨mv, hmv⟩ : ∃ z, z = (if (1 : Int32) < ((p2 &&& (2147483647 : Int32)) % (3 : Int32)) then (1 : Int32) else ((p2 &&& (2147483647 : Int32)) % (3 : Int32))) := ⟨_, rfl⟩
      rw [← hmv] at pre186
      have hm3 := own_min hmv (own_rem p2) (by decide)
      have hm4 := own_c3 hm3.1 hm3.2.1
      obtain ⟨_, _, ⟨T187, L187, k187, n187⟩, -, X187, ⟨Lc187, hQ187, l187, y187, z187⟩, st187⟩ := Jvm.LawKit.callS X185 hx (y := (⟨"java/lang/Math", "min", "(II)I"⟩ : MethodName)) hown (mvT hZ (ow hw 1 rfl)) (mvT hZ (ow hw 2 rfl)) (mvT hZ (ow hw 3 rfl)) (mvT hZ (ow hw 4 rfl)) (by decide) (backOf (W := 0) (rm1 l Z a0 hw [] ((p3 &&& (2147483647 : Int32)) % (3 : Int32)) ((1 : Int32) - mv) h0 n0 Z0 ) hZ (ow hw 4 rfl) (ow hw 3 rfl) (by decide) (by decide)) (g := (mkF m 55 #[.val (.int p0), .val (.int p1), .val (.int p2), .val (.int p3), .val (.int (1 : Int32)), .val (.int (own_b (¬ ((p0 &&& (2 : Int32)) = (0 : Int32))))), .val (.int (1 : Int32)), .val (.int mv), .unset, .unset, .unset, .unset] [(.int ((1 : Int32) - mv)), (.int ((p3 &&& (2147483647 : Int32)) % (3 : Int32)))])) rfl (by rw [hml]; rfl) (argsL := [(.int ((p3 &&& (2147483647 : Int32)) % (3 : Int32))), (.int ((1 : Int32) - mv))]) (rest := []) (lenOf pd6 rfl) rfl (by show 2 * 0 + _ ≤ _; exact Nat.le_of_eq rfl) (hb hby at_55) (fun _ _ => ⟨rfl, e185, (by decide : 0 + 0 ≤ _), (by decide : 0 + 0 ≤ _)⟩)
      dsimp only [Pt.U, Pt.locs, Pt.cells, Pt.slots] at X187 l187 y187 z187 st187 hQ187
      subst l187 y187 z187
      obtain ⟨rfl, N187q, e187⟩ := hQ187
      have N187 := Fr.app N185 N187q
      have pre188 : ∀ tZ, Steps p.tables e below (T187.setTop (mkF m 60 #[.val (.int p0), .val (.int p1), .val (.int p2), .val (.int p3), .val (.int (1 : Int32)), .val (.int (own_b (¬ ((p0 &&& (2 : Int32)) = (0 : Int32))))), .val (.int (1 : Int32)), .val (.int mv), .val (.int (if ((1 : Int32) - mv) < ((p3 &&& (2147483647 : Int32)) % (3 : Int32)) then ((1 : Int32) - mv) else ((p3 &&& (2147483647 : Int32)) % (3 : Int32)))), .unset, .unset, .unset] [])) tZ → Steps p.tables e below (s₁.setTop (entryFrame m #[(.int p0), (.int p1), (.int p2), (.int p3)] maxLocals)) tZ := fun tZ kZ => pre186 tZ (by
        show Steps p.tables e below (T185.setTop (mkF m 44 #[.val (.int p0), .val (.int p1), .val (.int p2), .val (.int p3), .val (.int (1 : Int32)), .val (.int (own_b (¬ ((p0 &&& (2 : Int32)) = (0 : Int32))))), .val (.int (1 : Int32)), .val (.int mv), .unset, .unset, .unset, .unset] [])) _
        refine XS.iloadN X185.here hx rfl (hb hby at_44) rfl  ?_
        show Steps p.tables e below (T185.setTop (mkF m 45 #[.val (.int p0), .val (.int p1), .val (.int p2), .val (.int p3), .val (.int (1 : Int32)), .val (.int (own_b (¬ ((p0 &&& (2 : Int32)) = (0 : Int32))))), .val (.int (1 : Int32)), .val (.int mv), .unset, .unset, .unset, .unset] [(.int p3)])) _
        refine X185.ldcInt hx hown (mvT hZ (ow hw 0 rfl)) (g := (mkF m 45 #[.val (.int p0), .val (.int p1), .val (.int p2), .val (.int p3), .val (.int (1 : Int32)), .val (.int (own_b (¬ ((p0 &&& (2 : Int32)) = (0 : Int32))))), .val (.int (1 : Int32)), .val (.int mv), .unset, .unset, .unset, .unset] [(.int p3)])) rfl (hb hby at_45) _ ?_
        show Steps p.tables e below (T185.setTop (mkF m 47 #[.val (.int p0), .val (.int p1), .val (.int p2), .val (.int p3), .val (.int (1 : Int32)), .val (.int (own_b (¬ ((p0 &&& (2 : Int32)) = (0 : Int32))))), .val (.int (1 : Int32)), .val (.int mv), .unset, .unset, .unset, .unset] [(.int (2147483647 : Int32)), (.int p3)])) _
        refine XS.iand X185.here hx rfl (hb hby at_47) rfl ?_
        show Steps p.tables e below (T185.setTop (mkF m 48 #[.val (.int p0), .val (.int p1), .val (.int p2), .val (.int p3), .val (.int (1 : Int32)), .val (.int (own_b (¬ ((p0 &&& (2 : Int32)) = (0 : Int32))))), .val (.int (1 : Int32)), .val (.int mv), .unset, .unset, .unset, .unset] [(.int (p3 &&& (2147483647 : Int32)))])) _
        refine XS.iconst X185.here hx rfl (hb hby at_48) ?_
        show Steps p.tables e below (T185.setTop (mkF m 49 #[.val (.int p0), .val (.int p1), .val (.int p2), .val (.int p3), .val (.int (1 : Int32)), .val (.int (own_b (¬ ((p0 &&& (2 : Int32)) = (0 : Int32))))), .val (.int (1 : Int32)), .val (.int mv), .unset, .unset, .unset, .unset] [(.int (3 : Int32)), (.int (p3 &&& (2147483647 : Int32)))])) _
        refine iremM X185 hx rfl (hb hby at_49) rfl (by decide) ?_
        show Steps p.tables e below (T185.setTop (mkF m 50 #[.val (.int p0), .val (.int p1), .val (.int p2), .val (.int p3), .val (.int (1 : Int32)), .val (.int (own_b (¬ ((p0 &&& (2 : Int32)) = (0 : Int32))))), .val (.int (1 : Int32)), .val (.int mv), .unset, .unset, .unset, .unset] [(.int ((p3 &&& (2147483647 : Int32)) % (3 : Int32)))])) _
        refine XS.iload X185.here hx rfl (hb hby at_50) rfl  ?_
        show Steps p.tables e below (T185.setTop (mkF m 52 #[.val (.int p0), .val (.int p1), .val (.int p2), .val (.int p3), .val (.int (1 : Int32)), .val (.int (own_b (¬ ((p0 &&& (2 : Int32)) = (0 : Int32))))), .val (.int (1 : Int32)), .val (.int mv), .unset, .unset, .unset, .unset] [(.int (1 : Int32)), (.int ((p3 &&& (2147483647 : Int32)) % (3 : Int32)))])) _
        refine XS.iload X185.here hx rfl (hb hby at_52) rfl  ?_
        show Steps p.tables e below (T185.setTop (mkF m 54 #[.val (.int p0), .val (.int p1), .val (.int p2), .val (.int p3), .val (.int (1 : Int32)), .val (.int (own_b (¬ ((p0 &&& (2 : Int32)) = (0 : Int32))))), .val (.int (1 : Int32)), .val (.int mv), .unset, .unset, .unset, .unset] [(.int mv), (.int (1 : Int32)), (.int ((p3 &&& (2147483647 : Int32)) % (3 : Int32)))])) _
        refine XS.isub X185.here hx rfl (hb hby at_54) rfl ?_
        show Steps p.tables e below (T185.setTop (mkF m 55 #[.val (.int p0), .val (.int p1), .val (.int p2), .val (.int p3), .val (.int (1 : Int32)), .val (.int (own_b (¬ ((p0 &&& (2 : Int32)) = (0 : Int32))))), .val (.int (1 : Int32)), .val (.int mv), .unset, .unset, .unset, .unset] [(.int ((1 : Int32) - mv)), (.int ((p3 &&& (2147483647 : Int32)) % (3 : Int32)))])) _
        refine st187 _ ?_
        show Steps p.tables e below (T187.setTop (mkF m 58 #[.val (.int p0), .val (.int p1), .val (.int p2), .val (.int p3), .val (.int (1 : Int32)), .val (.int (own_b (¬ ((p0 &&& (2 : Int32)) = (0 : Int32))))), .val (.int (1 : Int32)), .val (.int mv), .unset, .unset, .unset, .unset] [(.int (if ((1 : Int32) - mv) < ((p3 &&& (2147483647 : Int32)) % (3 : Int32)) then ((1 : Int32) - mv) else ((p3 &&& (2147483647 : Int32)) % (3 : Int32))))])) _
        refine XS.istore X187.here hx rfl (hb hby at_58) rfl (l' := #[.val (.int p0), .val (.int p1), .val (.int p2), .val (.int p3), .val (.int (1 : Int32)), .val (.int (own_b (¬ ((p0 &&& (2 : Int32)) = (0 : Int32))))), .val (.int (1 : Int32)), .val (.int mv), .val (.int (if ((1 : Int32) - mv) < ((p3 &&& (2147483647 : Int32)) % (3 : Int32)) then ((1 : Int32) - mv) else ((p3 &&& (2147483647 : Int32)) % (3 : Int32)))), .unset, .unset, .unset]) rfl ?_
        exact kZ)
      obtain ⟨nv, hnv⟩ : ∃ z, z = (if ((1 : Int32) - mv) < ((p3 &&& (2147483647 : Int32)) % (3 : Int32)) then ((1 : Int32) - mv) else ((p3 &&& (2147483647 : Int32)) % (3 : Int32))) := ⟨_, rfl⟩
      rw [← hnv] at pre188
      have hn3 := own_min hnv (own_rem p3) (own_nn hm4 hm3.2.2 (by decide))
      have hn4 := own_c3 hn3.1 hn3.2.1
      obtain ⟨T189, h189, X189, e189, E189, A189, D189, -, st189⟩ := newO X187 hx hZ hown (ow hw 5 rfl) (ow hw 6 rfl) (ow hw 7 rfl) e187 (g := (mkF m 60 #[.val (.int p0), .val (.int p1), .val (.int p2), .val (.int p3), .val (.int (1 : Int32)), .val (.int (own_b (¬ ((p0 &&& (2 : Int32)) = (0 : Int32))))), .val (.int (1 : Int32)), .val (.int mv), .val (.int nv), .unset, .unset, .unset] [])) rfl (hb hby at_60) (by decide) (by decide)
      obtain ⟨b189, g189⟩ : ∃ z, z = h0.size := ⟨_, rfl⟩
      rw [← g189] at A189 D189 st189
      have gn_b189 : n0 ≤ b189 := Nat.le_trans Z0 (Nat.le_of_eq g189.symm)
      have Z190 : n0 ≤ h189.size := Nat.le_trans Z0 E189.1
      have F__tasks_b189 : Fld Z h189 b189 oR "_tasks" "[Lcom/example/portunus/portunus/policy/WaitingTask;" .null := D189 (Or.inl (ow hw 20 rfl)) (ty := (.array (.object oW))) (by decide)
      have F__mayBeLostAfterUs_b189 : Fld Z h189 b189 oR "_mayBeLostAfterUs" "[D" .null := D189 (Or.inl (ow hw 22 rfl)) (ty := (.array .double)) (by decide)
      have F__size_b189 : Fld Z h189 b189 oR "_size" "I" (.int (0 : Int32)) := D189 (Or.inl (ow hw 29 rfl)) (ty := .int) (by decide)
      have F__first_b189 : Fld Z h189 b189 oR "_first" "I" (.int (0 : Int32)) := D189 (Or.inl (ow hw 35 rfl)) (ty := .int) (by decide)
      have F__lostSlots_b189 : Fld Z h189 b189 oR "_lostSlots" "I" (.int (0 : Int32)) := D189 (Or.inl (ow hw 44 rfl)) (ty := .int) (by decide)
      obtain ⟨_, _, ⟨T191, L191, k191, n191⟩, -, X191, ⟨Lc191, hQ191, l191, y191, z191⟩, st191⟩ := X189.specialBack hx (y := (⟨oR, "<init>", "(Z)V"⟩ : MethodName)) rfl hown (mvT hZ (ow hw 8 rfl)) (mvT hZ (ow hw 9 rfl)) (mvT hZ (ow hw 10 rfl)) (by decide) (backOf (W := 1) (rm2d l Z a0 hw [] b189 .null .null h189 n0 Z190 A189 F__tasks_b189 F__mayBeLostAfterUs_b189 F__size_b189 F__lostSlots_b189 F__first_b189 gn_b189) hZ (ow hw 10 rfl) (ow hw 7 rfl) (by decide) (by decide)) (g := (mkF m 66 #[.val (.int p0), .val (.int p1), .val (.int p2), .val (.int p3), .val (.int (1 : Int32)), .val (.int (own_b (¬ ((p0 &&& (2 : Int32)) = (0 : Int32))))), .val (.int (1 : Int32)), .val (.int mv), .val (.int nv), .unset, .unset, .unset] [(.int (1 : Int32)), (.ref b189), (.ref b189)])) rfl (by rw [hml]; rfl) (Steps.refl _) (a := b189) (argsL := [(.int (1 : Int32))]) (rest := [(.ref b189)]) (lenOf pd7 rfl) rfl (by show 2 * 0 + _ ≤ _; exact Nat.le_of_eq rfl) (hb hby at_66) (fun _ _ => ⟨rfl, e189, (by decide : 1 + 2 ≤ _), (by decide : 5 + 16 ≤ _)⟩)
      dsimp only [Pt.U, Pt.locs, Pt.cells, Pt.slots] at X191 l191 y191 z191 st191 hQ191
      subst l191 y191 z191
      obtain ⟨tk_192, kt_193, dd_194, rfl, N191q, K191, u191_0, u191_1, u191_2, u191_3, u191_4, f191_0, f191_1, f191_2, f191_3, f191_4, f191_5, f191_6, f191_7⟩ := hQ191
      have N191 := Fr.app N187 N191q
      have Z195 : n0 ≤ T191.heap.size := Nat.le_trans Z190 K191.1
      have ne196 : b189 ≠ tk_192 := Nat.ne_of_lt (Nat.lt_of_lt_of_le A189.lt u191_1)
      have ne197 : b189 ≠ dd_194 := Nat.ne_of_lt (Nat.lt_of_lt_of_le A189.lt u191_3)
      obtain ⟨cq198, kq198, q198a, q198b, q198c⟩ := isOf hZ rfl f191_0
      obtain ⟨_, _, ⟨T198, L198, k198, n198⟩, -, X198, ⟨Lc198, hQ198, l198, y198, z198⟩, st198⟩ := X191.virtualBack hx (y := (⟨oR, "addLast", "(Lcom/example/portunus/portunus/policy/WaitingTask;D)V"⟩ : MethodName)) (z := (⟨oR, "addLast", "(Lcom/example/portunus/portunus/policy/WaitingTask;D)V"⟩ : MethodName)) hown (mvT hZ (ow hw 23 rfl)) (mvT hZ (ow hw 24 rfl)) (notFace_of_selects (args := #[]) (mvT hZ (ow hw 26 rfl))) (mvT hZ (ow hw 26 rfl)) (mvT hZ (ow hw 25 rfl)) (by decide) (backOf (W := 0) (rm5d l Z a0 hw [] b189 Jvm.FP.dconst1 tk_192 (0 : Int32) (0 : Int32) (0 : Int32) kt_193 dd_194 T191.heap n0 Z195 f191_0 f191_1 f191_2 f191_3 f191_4 f191_5 f191_6 gn_b189 u191_0 ne196 f191_7 u191_2 ne197 u191_4 (by first | assumption | decide | omega)) hZ (ow hw 27 rfl) (ow hw 7 rfl) (by decide) (by decide)) q198a q198c (g := (mkF m 81 #[.val (.int p0), .val (.int p1), .val (.int p2), .val (.int p3), .val (.int (1 : Int32)), .val (.int (own_b (¬ ((p0 &&& (2 : Int32)) = (0 : Int32))))), .val (.int (1 : Int32)), .val (.int mv), .val (.int nv), .val (.ref b189), .unset, .unset] [(.double Jvm.FP.dconst1), .null, (.ref b189)])) rfl (by rw [hml]; rfl) (Steps.refl _) (argsL := [.null, (.double Jvm.FP.dconst1)]) (rest := []) (lenOf pd10 rfl) rfl (by show 2 * 0 + _ ≤ _; exact Nat.le_of_eq rfl) (hb hby at_81) (fun _ _ => ⟨rfl, rfl, (by decide : 3 + 0 ≤ _), (by decide : 21 + 0 ≤ _)⟩)
      dsimp only [Pt.U, Pt.locs, Pt.cells, Pt.slots] at X198 l198 y198 z198 st198 hQ198
      subst l198 y198 z198
      obtain ⟨rfl, N198q, K198, f198_0, f198_1, f198_2, f198_3, f198_4, f198_5, f198_6, f198_7⟩ := hQ198
      have N198 := Fr.app N191 N198q
      have Z199 : n0 ≤ T198.heap.size := Nat.le_trans Z195 K198.1
      obtain ⟨cq200, kq200, q200a, q200b, q200c⟩ := isOf hZ rfl f198_0
      obtain ⟨_, _, ⟨T200, L200, k200, n200⟩, -, X200, ⟨Lc200, hQ200, l200, y200, z200⟩, st200⟩ := X198.virtualBack hx (y := (⟨oR, "hasOther", "()Z"⟩ : MethodName)) (z := (⟨oR, "hasOther", "()Z"⟩ : MethodName)) hown (mvT hZ (ow hw 38 rfl)) (mvT hZ (ow hw 39 rfl)) (notFace_of_selects (args := #[]) (mvT hZ (ow hw 41 rfl))) (mvT hZ (ow hw 41 rfl)) (mvT hZ (ow hw 40 rfl)) (by decide) (backOf (W := 0) (rm7 l Z a0 hw [] b189 ((0 : Int32) + (1 : Int32)) (0 : Int32) T198.heap n0 Z199 f198_3 f198_4) hZ (ow hw 42 rfl) (ow hw 7 rfl) (by decide) (by decide)) q200a q200c (g := (mkF m 116 #[.val (.int p0), .val (.int p1), .val (.int p2), .val (.int p3), .val (.int (1 : Int32)), .val (.int (own_b (¬ ((p0 &&& (2 : Int32)) = (0 : Int32))))), .val (.int (1 : Int32)), .val (.int mv), .val (.int nv), .val (.ref b189), .unset, .unset] [(.ref b189)])) rfl (by rw [hml]; rfl) (Steps.refl _) (argsL := []) (rest := []) (lenOf pd8 rfl) rfl (by show 2 * 0 + _ ≤ _; exact Nat.le_of_eq rfl) (hb hby at_116) (fun _ _ => ⟨rfl, rfl, (by decide : 3 + 0 ≤ _), (by decide : 21 + 0 ≤ _)⟩)
      dsimp only [Pt.U, Pt.locs, Pt.cells, Pt.slots] at X200 l200 y200 z200 st200 hQ200
      subst l200 y200 z200
      obtain ⟨rfl, N200q, e200⟩ := hQ200
      have N200 := Fr.app N198 N200q
      have pre201 : ∀ tZ, Steps p.tables e below (T200.setTop (mkF m 123 #[.val (.int p0), .val (.int p1), .val (.int p2), .val (.int p3), .val (.int (1 : Int32)), .val (.int (own_b (¬ ((p0 &&& (2 : Int32)) = (0 : Int32))))), .val (.int (1 : Int32)), .val (.int mv), .val (.int nv), .val (.ref b189), .val (.int (own_b ((0 : Int32) < ((0 : Int32) + (1 : Int32))))), .unset] [(.int (own_b (¬ ((p0 &&& (2 : Int32)) = (0 : Int32)))))])) tZ → Steps p.tables e below (s₁.setTop (entryFrame m #[(.int p0), (.int p1), (.int p2), (.int p3)] maxLocals)) tZ := fun tZ kZ => pre188 tZ (by
        show Steps p.tables e below (T187.setTop (mkF m 60 #[.val (.int p0), .val (.int p1), .val (.int p2), .val (.int p3), .val (.int (1 : Int32)), .val (.int (own_b (¬ ((p0 &&& (2 : Int32)) = (0 : Int32))))), .val (.int (1 : Int32)), .val (.int mv), .val (.int nv), .unset, .unset, .unset] [])) _
        refine st189 _ ?_
        show Steps p.tables e below (T189.setTop (mkF m 63 #[.val (.int p0), .val (.int p1), .val (.int p2), .val (.int p3), .val (.int (1 : Int32)), .val (.int (own_b (¬ ((p0 &&& (2 : Int32)) = (0 : Int32))))), .val (.int (1 : Int32)), .val (.int mv), .val (.int nv), .unset, .unset, .unset] [(.ref b189)])) _
        refine XS.dup X189.here hx rfl (hb hby at_63) rfl rfl ?_
        show Steps p.tables e below (T189.setTop (mkF m 64 #[.val (.int p0), .val (.int p1), .val (.int p2), .val (.int p3), .val (.int (1 : Int32)), .val (.int (own_b (¬ ((p0 &&& (2 : Int32)) = (0 : Int32))))), .val (.int (1 : Int32)), .val (.int mv), .val (.int nv), .unset, .unset, .unset] [(.ref b189), (.ref b189)])) _
        refine XS.iload X189.here hx rfl (hb hby at_64) rfl  ?_
        show Steps p.tables e below (T189.setTop (mkF m 66 #[.val (.int p0), .val (.int p1), .val (.int p2), .val (.int p3), .val (.int (1 : Int32)), .val (.int (own_b (¬ ((p0 &&& (2 : Int32)) = (0 : Int32))))), .val (.int (1 : Int32)), .val (.int mv), .val (.int nv), .unset, .unset, .unset] [(.int (1 : Int32)), (.ref b189), (.ref b189)])) _
        refine st191.trans ?_
        show Steps p.tables e below (T191.setTop (mkF m 69 #[.val (.int p0), .val (.int p1), .val (.int p2), .val (.int p3), .val (.int (1 : Int32)), .val (.int (own_b (¬ ((p0 &&& (2 : Int32)) = (0 : Int32))))), .val (.int (1 : Int32)), .val (.int mv), .val (.int nv), .unset, .unset, .unset] [(.ref b189)])) _
        refine XS.astore X191.here hx rfl (hb hby at_69) rfl rfl (l' := #[.val (.int p0), .val (.int p1), .val (.int p2), .val (.int p3), .val (.int (1 : Int32)), .val (.int (own_b (¬ ((p0 &&& (2 : Int32)) = (0 : Int32))))), .val (.int (1 : Int32)), .val (.int mv), .val (.int nv), .val (.ref b189), .unset, .unset]) rfl ?_
        show Steps p.tables e below (T191.setTop (mkF m 71 #[.val (.int p0), .val (.int p1), .val (.int p2), .val (.int p3), .val (.int (1 : Int32)), .val (.int (own_b (¬ ((p0 &&& (2 : Int32)) = (0 : Int32))))), .val (.int (1 : Int32)), .val (.int mv), .val (.int nv), .val (.ref b189), .unset, .unset] [])) _
        refine XS.iload X191.here hx rfl (hb hby at_71) rfl  ?_
        show Steps p.tables e below (T191.setTop (mkF m 73 #[.val (.int p0), .val (.int p1), .val (.int p2), .val (.int p3), .val (.int (1 : Int32)), .val (.int (own_b (¬ ((p0 &&& (2 : Int32)) = (0 : Int32))))), .val (.int (1 : Int32)), .val (.int mv), .val (.int nv), .val (.ref b189), .unset, .unset] [(.int (1 : Int32))])) _
        refine XS.iconst X191.here hx rfl (hb hby at_73) ?_
        show Steps p.tables e below (T191.setTop (mkF m 74 #[.val (.int p0), .val (.int p1), .val (.int p2), .val (.int p3), .val (.int (1 : Int32)), .val (.int (own_b (¬ ((p0 &&& (2 : Int32)) = (0 : Int32))))), .val (.int (1 : Int32)), .val (.int mv), .val (.int nv), .val (.ref b189), .unset, .unset] [(.int (1 : Int32)), (.int (1 : Int32))])) _
        refine XS.icmpNo X191.here hx rfl (hb hby at_74) rfl (flt (by decide)).1 ?_
        show Steps p.tables e below (T191.setTop (mkF m 77 #[.val (.int p0), .val (.int p1), .val (.int p2), .val (.int p3), .val (.int (1 : Int32)), .val (.int (own_b (¬ ((p0 &&& (2 : Int32)) = (0 : Int32))))), .val (.int (1 : Int32)), .val (.int mv), .val (.int nv), .val (.ref b189), .unset, .unset] [])) _
        refine XS.aload X191.here hx rfl (hb hby at_77) rfl rfl ?_
        show Steps p.tables e below (T191.setTop (mkF m 79 #[.val (.int p0), .val (.int p1), .val (.int p2), .val (.int p3), .val (.int (1 : Int32)), .val (.int (own_b (¬ ((p0 &&& (2 : Int32)) = (0 : Int32))))), .val (.int (1 : Int32)), .val (.int mv), .val (.int nv), .val (.ref b189), .unset, .unset] [(.ref b189)])) _
        refine XS.aconstNull X191.here hx rfl (hb hby at_79) ?_
        show Steps p.tables e below (T191.setTop (mkF m 80 #[.val (.int p0), .val (.int p1), .val (.int p2), .val (.int p3), .val (.int (1 : Int32)), .val (.int (own_b (¬ ((p0 &&& (2 : Int32)) = (0 : Int32))))), .val (.int (1 : Int32)), .val (.int mv), .val (.int nv), .val (.ref b189), .unset, .unset] [.null, (.ref b189)])) _
        refine XS.dconst1 X191.here hx rfl (v := Jvm.FP.dconst1) (hb hby at_80) rfl ?_
        show Steps p.tables e below (T191.setTop (mkF m 81 #[.val (.int p0), .val (.int p1), .val (.int p2), .val (.int p3), .val (.int (1 : Int32)), .val (.int (own_b (¬ ((p0 &&& (2 : Int32)) = (0 : Int32))))), .val (.int (1 : Int32)), .val (.int mv), .val (.int nv), .val (.ref b189), .unset, .unset] [(.double Jvm.FP.dconst1), .null, (.ref b189)])) _
        refine st198.trans ?_
        show Steps p.tables e below (T198.setTop (mkF m 84 #[.val (.int p0), .val (.int p1), .val (.int p2), .val (.int p3), .val (.int (1 : Int32)), .val (.int (own_b (¬ ((p0 &&& (2 : Int32)) = (0 : Int32))))), .val (.int (1 : Int32)), .val (.int mv), .val (.int nv), .val (.ref b189), .unset, .unset] [])) _
        refine XS.iload X198.here hx rfl (hb hby at_84) rfl  ?_
        show Steps p.tables e below (T198.setTop (mkF m 86 #[.val (.int p0), .val (.int p1), .val (.int p2), .val (.int p3), .val (.int (1 : Int32)), .val (.int (own_b (¬ ((p0 &&& (2 : Int32)) = (0 : Int32))))), .val (.int (1 : Int32)), .val (.int mv), .val (.int nv), .val (.ref b189), .unset, .unset] [(.int (1 : Int32))])) _
        refine XS.iconst X198.here hx rfl (hb hby at_86) ?_
        show Steps p.tables e below (T198.setTop (mkF m 87 #[.val (.int p0), .val (.int p1), .val (.int p2), .val (.int p3), .val (.int (1 : Int32)), .val (.int (own_b (¬ ((p0 &&& (2 : Int32)) = (0 : Int32))))), .val (.int (1 : Int32)), .val (.int mv), .val (.int nv), .val (.ref b189), .unset, .unset] [(.int (2 : Int32)), (.int (1 : Int32))])) _
        refine XS.icmpYes X198.here hx rfl (pc0 := 87) (pc' := 99) rfl (hb hby at_87) rfl (tlt (by decide)).1 (by decide) (by decide) ?_
        show Steps p.tables e below (T198.setTop (mkF m 99 #[.val (.int p0), .val (.int p1), .val (.int p2), .val (.int p3), .val (.int (1 : Int32)), .val (.int (own_b (¬ ((p0 &&& (2 : Int32)) = (0 : Int32))))), .val (.int (1 : Int32)), .val (.int mv), .val (.int nv), .val (.ref b189), .unset, .unset] [])) _
        refine XS.iload X198.here hx rfl (hb hby at_99) rfl  ?_
        show Steps p.tables e below (T198.setTop (mkF m 101 #[.val (.int p0), .val (.int p1), .val (.int p2), .val (.int p3), .val (.int (1 : Int32)), .val (.int (own_b (¬ ((p0 &&& (2 : Int32)) = (0 : Int32))))), .val (.int (1 : Int32)), .val (.int mv), .val (.int nv), .val (.ref b189), .unset, .unset] [(.int (1 : Int32))])) _
        refine XS.iconst X198.here hx rfl (hb hby at_101) ?_
        show Steps p.tables e below (T198.setTop (mkF m 102 #[.val (.int p0), .val (.int p1), .val (.int p2), .val (.int p3), .val (.int (1 : Int32)), .val (.int (own_b (¬ ((p0 &&& (2 : Int32)) = (0 : Int32))))), .val (.int (1 : Int32)), .val (.int mv), .val (.int nv), .val (.ref b189), .unset, .unset] [(.int (3 : Int32)), (.int (1 : Int32))])) _
        refine XS.icmpYes X198.here hx rfl (pc0 := 102) (pc' := 114) rfl (hb hby at_102) rfl (tlt (by decide)).1 (by decide) (by decide) ?_
        show Steps p.tables e below (T198.setTop (mkF m 114 #[.val (.int p0), .val (.int p1), .val (.int p2), .val (.int p3), .val (.int (1 : Int32)), .val (.int (own_b (¬ ((p0 &&& (2 : Int32)) = (0 : Int32))))), .val (.int (1 : Int32)), .val (.int mv), .val (.int nv), .val (.ref b189), .unset, .unset] [])) _
        refine XS.aload X198.here hx rfl (hb hby at_114) rfl rfl ?_
        show Steps p.tables e below (T198.setTop (mkF m 116 #[.val (.int p0), .val (.int p1), .val (.int p2), .val (.int p3), .val (.int (1 : Int32)), .val (.int (own_b (¬ ((p0 &&& (2 : Int32)) = (0 : Int32))))), .val (.int (1 : Int32)), .val (.int mv), .val (.int nv), .val (.ref b189), .unset, .unset] [(.ref b189)])) _
        refine st200.trans ?_
        show Steps p.tables e below (T200.setTop (mkF m 119 #[.val (.int p0), .val (.int p1), .val (.int p2), .val (.int p3), .val (.int (1 : Int32)), .val (.int (own_b (¬ ((p0 &&& (2 : Int32)) = (0 : Int32))))), .val (.int (1 : Int32)), .val (.int mv), .val (.int nv), .val (.ref b189), .unset, .unset] [(.int (own_b ((0 : Int32) < ((0 : Int32) + (1 : Int32)))))])) _
        refine XS.istore X200.here hx rfl (hb hby at_119) rfl (l' := #[.val (.int p0), .val (.int p1), .val (.int p2), .val (.int p3), .val (.int (1 : Int32)), .val (.int (own_b (¬ ((p0 &&& (2 : Int32)) = (0 : Int32))))), .val (.int (1 : Int32)), .val (.int mv), .val (.int nv), .val (.ref b189), .val (.int (own_b ((0 : Int32) < ((0 : Int32) + (1 : Int32))))), .unset]) rfl ?_
        show Steps p.tables e below (T200.setTop (mkF m 121 #[.val (.int p0), .val (.int p1), .val (.int p2), .val (.int p3), .val (.int (1 : Int32)), .val (.int (own_b (¬ ((p0 &&& (2 : Int32)) = (0 : Int32))))), .val (.int (1 : Int32)), .val (.int mv), .val (.int nv), .val (.ref b189), .val (.int (own_b ((0 : Int32) < ((0 : Int32) + (1 : Int32))))), .unset] [])) _
        refine XS.iload X200.here hx rfl (hb hby at_121) rfl  ?_
        exact kZ)
      by_cases hc202 : (¬ ((p0 &&& (2 : Int32)) = (0 : Int32)))
      ·  -- yes
        obtain ⟨_, _, ⟨T203, L203, k203, n203⟩, -, X203, ⟨Lc203, hQ203, l203, y203, z203⟩, st203⟩ := Jvm.LawKit.callS X200 hx (y := (⟨oL, "doPolls", "(Lcom/example/portunus/portunus/policy/Run;I)V"⟩ : MethodName)) hown (mvT hZ (ow hw 54 rfl)) (mvT hZ (ow hw 55 rfl)) (mvT hZ (ow hw 47 rfl)) (mvT hZ (ow hw 56 rfl)) (by decide) (backOf (W := 0) (rm10d l Z a0 hw [] b189 nv tk_192 ((0 : Int32) + (1 : Int32)) (0 : Int32) (0 : Int32) kt_193 dd_194 T198.heap n0 Z199 f198_0 f198_1 f198_2 f198_3 f198_4 f198_5 f198_6 gn_b189 u191_0 ne196 f198_7 u191_2 ne197 u191_4 hn4 (by decide)) hZ (ow hw 56 rfl) (ow hw 47 rfl) (by decide) (by decide)) (g := (mkF m 130 #[.val (.int p0), .val (.int p1), .val (.int p2), .val (.int p3), .val (.int (1 : Int32)), .val (.int (own_b (¬ ((p0 &&& (2 : Int32)) = (0 : Int32))))), .val (.int (1 : Int32)), .val (.int mv), .val (.int nv), .val (.ref b189), .val (.int (own_b ((0 : Int32) < ((0 : Int32) + (1 : Int32))))), .unset] [(.int nv), (.ref b189)])) rfl (by rw [hml]; rfl) (argsL := [(.ref b189), (.int nv)]) (rest := []) (lenOf pd9 rfl) rfl (by show 2 * 0 + _ ≤ _; exact Nat.le_of_eq rfl) (hb hby at_130) (fun _ _ => ⟨rfl, e200, (by decide : 3 + 0 ≤ _), (by decide : 21 + 0 ≤ _)⟩)
        dsimp only [Pt.U, Pt.locs, Pt.cells, Pt.slots] at X203 l203 y203 z203 st203 hQ203
        subst l203 y203 z203
        obtain ⟨fn_204, rfl, N203q, K203, f203_0, f203_1, f203_2, f203_3, f203_4, f203_5, f203_6, f203_7⟩ := hQ203
        have N203 := Fr.app N200 N203q
        have Z205 : n0 ≤ T203.heap.size := Nat.le_trans Z199 K203.1
        obtain ⟨_, _, ⟨T206, L206, k206, n206⟩, -, X206, ⟨Lc206, hQ206, l206, y206, z206⟩, st206⟩ := Jvm.LawKit.callS X203 hx (y := (⟨oL, "doMarks", "(Lcom/example/portunus/portunus/policy/Run;I)V"⟩ : MethodName)) hown (mvT hZ (ow hw 45 rfl)) (mvT hZ (ow hw 46 rfl)) (mvT hZ (ow hw 47 rfl)) (mvT hZ (ow hw 48 rfl)) (by decide) (backOf (W := 0) (rm8d l Z a0 hw [] b189 mv tk_192 (own_ps (0 : Int32) ((0 : Int32) + (1 : Int32)) nv) (own_pl (0 : Int32) nv) fn_204 kt_193 dd_194 T203.heap n0 Z205 f203_0 f203_1 f203_2 f203_3 f203_4 f203_5 f203_6 gn_b189 u191_0 ne196 f203_7 u191_2 ne197 u191_4 hm4) hZ (ow hw 48 rfl) (ow hw 47 rfl) (by decide) (by decide)) (g := (mkF m 137 #[.val (.int p0), .val (.int p1), .val (.int p2), .val (.int p3), .val (.int (1 : Int32)), .val (.int (own_b (¬ ((p0 &&& (2 : Int32)) = (0 : Int32))))), .val (.int (1 : Int32)), .val (.int mv), .val (.int nv), .val (.ref b189), .val (.int (own_b ((0 : Int32) < ((0 : Int32) + (1 : Int32))))), .unset] [(.int mv), (.ref b189)])) rfl (by rw [hml]; rfl) (argsL := [(.ref b189), (.int mv)]) (rest := []) (lenOf pd9 rfl) rfl (by show 2 * 0 + _ ≤ _; exact Nat.le_of_eq rfl) (hb hby at_137) (fun _ _ => ⟨rfl, rfl, (by decide : 3 + 0 ≤ _), (by decide : 21 + 0 ≤ _)⟩)
        dsimp only [Pt.U, Pt.locs, Pt.cells, Pt.slots] at X206 l206 y206 z206 st206 hQ206
        subst l206 y206 z206
        obtain ⟨rfl, N206q, K206, f206_0, f206_1, f206_2, f206_3, f206_4, f206_5, f206_6, f206_7⟩ := hQ206
        have N206 := Fr.app N203 N206q
        have Z207 : n0 ≤ T206.heap.size := Nat.le_trans Z205 K206.1
        obtain ⟨cq208, kq208, q208a, q208b, q208c⟩ := isOf hZ rfl f206_0
        obtain ⟨_, _, ⟨T208, L208, k208, n208⟩, -, X208, ⟨Lc208, hQ208, l208, y208, z208⟩, st208⟩ := X206.virtualBack hx (y := (⟨oR, "hasOther", "()Z"⟩ : MethodName)) (z := (⟨oR, "hasOther", "()Z"⟩ : MethodName)) hown (mvT hZ (ow hw 38 rfl)) (mvT hZ (ow hw 39 rfl)) (notFace_of_selects (args := #[]) (mvT hZ (ow hw 41 rfl))) (mvT hZ (ow hw 41 rfl)) (mvT hZ (ow hw 40 rfl)) (by decide) (backOf (W := 0) (rm7 l Z a0 hw [] b189 (own_ps (0 : Int32) ((0 : Int32) + (1 : Int32)) nv) ((own_pl (0 : Int32) nv) + mv) T206.heap n0 Z207 f206_3 f206_4) hZ (ow hw 42 rfl) (ow hw 7 rfl) (by decide) (by decide)) q208a q208c (g := (mkF m 159 #[.val (.int p0), .val (.int p1), .val (.int p2), .val (.int p3), .val (.int (1 : Int32)), .val (.int (own_b (¬ ((p0 &&& (2 : Int32)) = (0 : Int32))))), .val (.int (1 : Int32)), .val (.int mv), .val (.int nv), .val (.ref b189), .val (.int (own_b ((0 : Int32) < ((0 : Int32) + (1 : Int32))))), .unset] [(.ref b189)])) rfl (by rw [hml]; rfl) (Steps.refl _) (argsL := []) (rest := []) (lenOf pd8 rfl) rfl (by show 2 * 0 + _ ≤ _; exact Nat.le_of_eq rfl) (hb hby at_159) (fun _ _ => ⟨rfl, rfl, (by decide : 3 + 0 ≤ _), (by decide : 21 + 0 ≤ _)⟩)
        dsimp only [Pt.U, Pt.locs, Pt.cells, Pt.slots] at X208 l208 y208 z208 st208 hQ208
        subst l208 y208 z208
        obtain ⟨rfl, N208q, e208⟩ := hQ208
        have N208 := Fr.app N206 N208q
        have pre209 : ∀ tZ, Steps p.tables e below (T208.setTop (mkF m 189 #[.val (.int p0), .val (.int p1), .val (.int p2), .val (.int p3), .val (.int (1 : Int32)), .val (.int (own_b (¬ ((p0 &&& (2 : Int32)) = (0 : Int32))))), .val (.int (1 : Int32)), .val (.int mv), .val (.int nv), .val (.ref b189), .val (.int (own_b ((0 : Int32) < ((0 : Int32) + (1 : Int32))))), .val (.int (own_b (((own_pl (0 : Int32) nv) + mv) < (own_ps (0 : Int32) ((0 : Int32) + (1 : Int32)) nv))))] [(.int (((1 : Int32) - mv) - nv)), (.int (own_b (((own_pl (0 : Int32) nv) + mv) < (own_ps (0 : Int32) ((0 : Int32) + (1 : Int32)) nv))))])) tZ → Steps p.tables e below (s₁.setTop (entryFrame m #[(.int p0), (.int p1), (.int p2), (.int p3)] maxLocals)) tZ := fun tZ kZ => pre201 tZ (by
          show Steps p.tables e below (T200.setTop (mkF m 123 #[.val (.int p0), .val (.int p1), .val (.int p2), .val (.int p3), .val (.int (1 : Int32)), .val (.int (own_b (¬ ((p0 &&& (2 : Int32)) = (0 : Int32))))), .val (.int (1 : Int32)), .val (.int mv), .val (.int nv), .val (.ref b189), .val (.int (own_b ((0 : Int32) < ((0 : Int32) + (1 : Int32))))), .unset] [(.int (own_b (¬ ((p0 &&& (2 : Int32)) = (0 : Int32)))))])) _
          refine XS.ifNo X200.here hx rfl (hb hby at_123) rfl ((if0 _ _).trans (feq (own_b_nz hc202)).1) ?_
          show Steps p.tables e below (T200.setTop (mkF m 126 #[.val (.int p0), .val (.int p1), .val (.int p2), .val (.int p3), .val (.int (1 : Int32)), .val (.int (own_b (¬ ((p0 &&& (2 : Int32)) = (0 : Int32))))), .val (.int (1 : Int32)), .val (.int mv), .val (.int nv), .val (.ref b189), .val (.int (own_b ((0 : Int32) < ((0 : Int32) + (1 : Int32))))), .unset] [])) _
          refine XS.aload X200.here hx rfl (hb hby at_126) rfl rfl ?_
          show Steps p.tables e below (T200.setTop (mkF m 128 #[.val (.int p0), .val (.int p1), .val (.int p2), .val (.int p3), .val (.int (1 : Int32)), .val (.int (own_b (¬ ((p0 &&& (2 : Int32)) = (0 : Int32))))), .val (.int (1 : Int32)), .val (.int mv), .val (.int nv), .val (.ref b189), .val (.int (own_b ((0 : Int32) < ((0 : Int32) + (1 : Int32))))), .unset] [(.ref b189)])) _
          refine XS.iload X200.here hx rfl (hb hby at_128) rfl  ?_
          show Steps p.tables e below (T200.setTop (mkF m 130 #[.val (.int p0), .val (.int p1), .val (.int p2), .val (.int p3), .val (.int (1 : Int32)), .val (.int (own_b (¬ ((p0 &&& (2 : Int32)) = (0 : Int32))))), .val (.int (1 : Int32)), .val (.int mv), .val (.int nv), .val (.ref b189), .val (.int (own_b ((0 : Int32) < ((0 : Int32) + (1 : Int32))))), .unset] [(.int nv), (.ref b189)])) _
          refine st203 _ ?_
          show Steps p.tables e below (T203.setTop (mkF m 133 #[.val (.int p0), .val (.int p1), .val (.int p2), .val (.int p3), .val (.int (1 : Int32)), .val (.int (own_b (¬ ((p0 &&& (2 : Int32)) = (0 : Int32))))), .val (.int (1 : Int32)), .val (.int mv), .val (.int nv), .val (.ref b189), .val (.int (own_b ((0 : Int32) < ((0 : Int32) + (1 : Int32))))), .unset] [])) _
          refine XS.aload X203.here hx rfl (hb hby at_133) rfl rfl ?_
          show Steps p.tables e below (T203.setTop (mkF m 135 #[.val (.int p0), .val (.int p1), .val (.int p2), .val (.int p3), .val (.int (1 : Int32)), .val (.int (own_b (¬ ((p0 &&& (2 : Int32)) = (0 : Int32))))), .val (.int (1 : Int32)), .val (.int mv), .val (.int nv), .val (.ref b189), .val (.int (own_b ((0 : Int32) < ((0 : Int32) + (1 : Int32))))), .unset] [(.ref b189)])) _
          refine XS.iload X203.here hx rfl (hb hby at_135) rfl  ?_
          show Steps p.tables e below (T203.setTop (mkF m 137 #[.val (.int p0), .val (.int p1), .val (.int p2), .val (.int p3), .val (.int (1 : Int32)), .val (.int (own_b (¬ ((p0 &&& (2 : Int32)) = (0 : Int32))))), .val (.int (1 : Int32)), .val (.int mv), .val (.int nv), .val (.ref b189), .val (.int (own_b ((0 : Int32) < ((0 : Int32) + (1 : Int32))))), .unset] [(.int mv), (.ref b189)])) _
          refine st206 _ ?_
          show Steps p.tables e below (T206.setTop (mkF m 140 #[.val (.int p0), .val (.int p1), .val (.int p2), .val (.int p3), .val (.int (1 : Int32)), .val (.int (own_b (¬ ((p0 &&& (2 : Int32)) = (0 : Int32))))), .val (.int (1 : Int32)), .val (.int mv), .val (.int nv), .val (.ref b189), .val (.int (own_b ((0 : Int32) < ((0 : Int32) + (1 : Int32))))), .unset] [])) _
          refine XS.goto X206.here hx rfl (pc0 := 140) (pc' := 157) rfl (hb hby at_140) (by decide) (by decide) ?_
          show Steps p.tables e below (T206.setTop (mkF m 157 #[.val (.int p0), .val (.int p1), .val (.int p2), .val (.int p3), .val (.int (1 : Int32)), .val (.int (own_b (¬ ((p0 &&& (2 : Int32)) = (0 : Int32))))), .val (.int (1 : Int32)), .val (.int mv), .val (.int nv), .val (.ref b189), .val (.int (own_b ((0 : Int32) < ((0 : Int32) + (1 : Int32))))), .unset] [])) _
          refine XS.aload X206.here hx rfl (hb hby at_157) rfl rfl ?_
          show Steps p.tables e below (T206.setTop (mkF m 159 #[.val (.int p0), .val (.int p1), .val (.int p2), .val (.int p3), .val (.int (1 : Int32)), .val (.int (own_b (¬ ((p0 &&& (2 : Int32)) = (0 : Int32))))), .val (.int (1 : Int32)), .val (.int mv), .val (.int nv), .val (.ref b189), .val (.int (own_b ((0 : Int32) < ((0 : Int32) + (1 : Int32))))), .unset] [(.ref b189)])) _
          refine st208.trans ?_
          show Steps p.tables e below (T208.setTop (mkF m 162 #[.val (.int p0), .val (.int p1), .val (.int p2), .val (.int p3), .val (.int (1 : Int32)), .val (.int (own_b (¬ ((p0 &&& (2 : Int32)) = (0 : Int32))))), .val (.int (1 : Int32)), .val (.int mv), .val (.int nv), .val (.ref b189), .val (.int (own_b ((0 : Int32) < ((0 : Int32) + (1 : Int32))))), .unset] [(.int (own_b (((own_pl (0 : Int32) nv) + mv) < (own_ps (0 : Int32) ((0 : Int32) + (1 : Int32)) nv))))])) _
          refine XS.istore X208.here hx rfl (hb hby at_162) rfl (l' := #[.val (.int p0), .val (.int p1), .val (.int p2), .val (.int p3), .val (.int (1 : Int32)), .val (.int (own_b (¬ ((p0 &&& (2 : Int32)) = (0 : Int32))))), .val (.int (1 : Int32)), .val (.int mv), .val (.int nv), .val (.ref b189), .val (.int (own_b ((0 : Int32) < ((0 : Int32) + (1 : Int32))))), .val (.int (own_b (((own_pl (0 : Int32) nv) + mv) < (own_ps (0 : Int32) ((0 : Int32) + (1 : Int32)) nv))))]) rfl ?_
          show Steps p.tables e below (T208.setTop (mkF m 164 #[.val (.int p0), .val (.int p1), .val (.int p2), .val (.int p3), .val (.int (1 : Int32)), .val (.int (own_b (¬ ((p0 &&& (2 : Int32)) = (0 : Int32))))), .val (.int (1 : Int32)), .val (.int mv), .val (.int nv), .val (.ref b189), .val (.int (own_b ((0 : Int32) < ((0 : Int32) + (1 : Int32))))), .val (.int (own_b (((own_pl (0 : Int32) nv) + mv) < (own_ps (0 : Int32) ((0 : Int32) + (1 : Int32)) nv))))] [])) _
          refine XS.iload X208.here hx rfl (hb hby at_164) rfl  ?_
          show Steps p.tables e below (T208.setTop (mkF m 166 #[.val (.int p0), .val (.int p1), .val (.int p2), .val (.int p3), .val (.int (1 : Int32)), .val (.int (own_b (¬ ((p0 &&& (2 : Int32)) = (0 : Int32))))), .val (.int (1 : Int32)), .val (.int mv), .val (.int nv), .val (.ref b189), .val (.int (own_b ((0 : Int32) < ((0 : Int32) + (1 : Int32))))), .val (.int (own_b (((own_pl (0 : Int32) nv) + mv) < (own_ps (0 : Int32) ((0 : Int32) + (1 : Int32)) nv))))] [(.int (own_b ((0 : Int32) < ((0 : Int32) + (1 : Int32)))))])) _
          refine XS.iload X208.here hx rfl (hb hby at_166) rfl  ?_
          show Steps p.tables e below (T208.setTop (mkF m 168 #[.val (.int p0), .val (.int p1), .val (.int p2), .val (.int p3), .val (.int (1 : Int32)), .val (.int (own_b (¬ ((p0 &&& (2 : Int32)) = (0 : Int32))))), .val (.int (1 : Int32)), .val (.int mv), .val (.int nv), .val (.ref b189), .val (.int (own_b ((0 : Int32) < ((0 : Int32) + (1 : Int32))))), .val (.int (own_b (((own_pl (0 : Int32) nv) + mv) < (own_ps (0 : Int32) ((0 : Int32) + (1 : Int32)) nv))))] [(.int (1 : Int32)), (.int (own_b ((0 : Int32) < ((0 : Int32) + (1 : Int32)))))])) _
          refine XS.ifNo X208.here hx rfl (hb hby at_168) rfl ((if0 _ _).trans (tlt (by decide)).2.2.2) ?_
          show Steps p.tables e below (T208.setTop (mkF m 171 #[.val (.int p0), .val (.int p1), .val (.int p2), .val (.int p3), .val (.int (1 : Int32)), .val (.int (own_b (¬ ((p0 &&& (2 : Int32)) = (0 : Int32))))), .val (.int (1 : Int32)), .val (.int mv), .val (.int nv), .val (.ref b189), .val (.int (own_b ((0 : Int32) < ((0 : Int32) + (1 : Int32))))), .val (.int (own_b (((own_pl (0 : Int32) nv) + mv) < (own_ps (0 : Int32) ((0 : Int32) + (1 : Int32)) nv))))] [(.int (own_b ((0 : Int32) < ((0 : Int32) + (1 : Int32)))))])) _
          refine XS.iconst X208.here hx rfl (hb hby at_171) ?_
          show Steps p.tables e below (T208.setTop (mkF m 172 #[.val (.int p0), .val (.int p1), .val (.int p2), .val (.int p3), .val (.int (1 : Int32)), .val (.int (own_b (¬ ((p0 &&& (2 : Int32)) = (0 : Int32))))), .val (.int (1 : Int32)), .val (.int mv), .val (.int nv), .val (.ref b189), .val (.int (own_b ((0 : Int32) < ((0 : Int32) + (1 : Int32))))), .val (.int (own_b (((own_pl (0 : Int32) nv) + mv) < (own_ps (0 : Int32) ((0 : Int32) + (1 : Int32)) nv))))] [(.int (1 : Int32)), (.int (own_b ((0 : Int32) < ((0 : Int32) + (1 : Int32)))))])) _
          refine XS.goto X208.here hx rfl (pc0 := 172) (pc' := 176) rfl (hb hby at_172) (by decide) (by decide) ?_
          show Steps p.tables e below (T208.setTop (mkF m 176 #[.val (.int p0), .val (.int p1), .val (.int p2), .val (.int p3), .val (.int (1 : Int32)), .val (.int (own_b (¬ ((p0 &&& (2 : Int32)) = (0 : Int32))))), .val (.int (1 : Int32)), .val (.int mv), .val (.int nv), .val (.ref b189), .val (.int (own_b ((0 : Int32) < ((0 : Int32) + (1 : Int32))))), .val (.int (own_b (((own_pl (0 : Int32) nv) + mv) < (own_ps (0 : Int32) ((0 : Int32) + (1 : Int32)) nv))))] [(.int (1 : Int32)), (.int (own_b ((0 : Int32) < ((0 : Int32) + (1 : Int32)))))])) _
          refine XS.icmpNo X208.here hx rfl (hb hby at_176) rfl (teq (by decide)).2 ?_
          show Steps p.tables e below (T208.setTop (mkF m 179 #[.val (.int p0), .val (.int p1), .val (.int p2), .val (.int p3), .val (.int (1 : Int32)), .val (.int (own_b (¬ ((p0 &&& (2 : Int32)) = (0 : Int32))))), .val (.int (1 : Int32)), .val (.int mv), .val (.int nv), .val (.ref b189), .val (.int (own_b ((0 : Int32) < ((0 : Int32) + (1 : Int32))))), .val (.int (own_b (((own_pl (0 : Int32) nv) + mv) < (own_ps (0 : Int32) ((0 : Int32) + (1 : Int32)) nv))))] [])) _
          refine XS.iload X208.here hx rfl (hb hby at_179) rfl  ?_
          show Steps p.tables e below (T208.setTop (mkF m 181 #[.val (.int p0), .val (.int p1), .val (.int p2), .val (.int p3), .val (.int (1 : Int32)), .val (.int (own_b (¬ ((p0 &&& (2 : Int32)) = (0 : Int32))))), .val (.int (1 : Int32)), .val (.int mv), .val (.int nv), .val (.ref b189), .val (.int (own_b ((0 : Int32) < ((0 : Int32) + (1 : Int32))))), .val (.int (own_b (((own_pl (0 : Int32) nv) + mv) < (own_ps (0 : Int32) ((0 : Int32) + (1 : Int32)) nv))))] [(.int (own_b (((own_pl (0 : Int32) nv) + mv) < (own_ps (0 : Int32) ((0 : Int32) + (1 : Int32)) nv))))])) _
          refine XS.iload X208.here hx rfl (hb hby at_181) rfl  ?_
          show Steps p.tables e below (T208.setTop (mkF m 183 #[.val (.int p0), .val (.int p1), .val (.int p2), .val (.int p3), .val (.int (1 : Int32)), .val (.int (own_b (¬ ((p0 &&& (2 : Int32)) = (0 : Int32))))), .val (.int (1 : Int32)), .val (.int mv), .val (.int nv), .val (.ref b189), .val (.int (own_b ((0 : Int32) < ((0 : Int32) + (1 : Int32))))), .val (.int (own_b (((own_pl (0 : Int32) nv) + mv) < (own_ps (0 : Int32) ((0 : Int32) + (1 : Int32)) nv))))] [(.int (1 : Int32)), (.int (own_b (((own_pl (0 : Int32) nv) + mv) < (own_ps (0 : Int32) ((0 : Int32) + (1 : Int32)) nv))))])) _
          refine XS.iload X208.here hx rfl (hb hby at_183) rfl  ?_
          show Steps p.tables e below (T208.setTop (mkF m 185 #[.val (.int p0), .val (.int p1), .val (.int p2), .val (.int p3), .val (.int (1 : Int32)), .val (.int (own_b (¬ ((p0 &&& (2 : Int32)) = (0 : Int32))))), .val (.int (1 : Int32)), .val (.int mv), .val (.int nv), .val (.ref b189), .val (.int (own_b ((0 : Int32) < ((0 : Int32) + (1 : Int32))))), .val (.int (own_b (((own_pl (0 : Int32) nv) + mv) < (own_ps (0 : Int32) ((0 : Int32) + (1 : Int32)) nv))))] [(.int mv), (.int (1 : Int32)), (.int (own_b (((own_pl (0 : Int32) nv) + mv) < (own_ps (0 : Int32) ((0 : Int32) + (1 : Int32)) nv))))])) _
          refine XS.isub X208.here hx rfl (hb hby at_185) rfl ?_
          show Steps p.tables e below (T208.setTop (mkF m 186 #[.val (.int p0), .val (.int p1), .val (.int p2), .val (.int p3), .val (.int (1 : Int32)), .val (.int (own_b (¬ ((p0 &&& (2 : Int32)) = (0 : Int32))))), .val (.int (1 : Int32)), .val (.int mv), .val (.int nv), .val (.ref b189), .val (.int (own_b ((0 : Int32) < ((0 : Int32) + (1 : Int32))))), .val (.int (own_b (((own_pl (0 : Int32) nv) + mv) < (own_ps (0 : Int32) ((0 : Int32) + (1 : Int32)) nv))))] [(.int ((1 : Int32) - mv)), (.int (own_b (((own_pl (0 : Int32) nv) + mv) < (own_ps (0 : Int32) ((0 : Int32) + (1 : Int32)) nv))))])) _
          refine XS.iload X208.here hx rfl (hb hby at_186) rfl  ?_
          show Steps p.tables e below (T208.setTop (mkF m 188 #[.val (.int p0), .val (.int p1), .val (.int p2), .val (.int p3), .val (.int (1 : Int32)), .val (.int (own_b (¬ ((p0 &&& (2 : Int32)) = (0 : Int32))))), .val (.int (1 : Int32)), .val (.int mv), .val (.int nv), .val (.ref b189), .val (.int (own_b ((0 : Int32) < ((0 : Int32) + (1 : Int32))))), .val (.int (own_b (((own_pl (0 : Int32) nv) + mv) < (own_ps (0 : Int32) ((0 : Int32) + (1 : Int32)) nv))))] [(.int nv), (.int ((1 : Int32) - mv)), (.int (own_b (((own_pl (0 : Int32) nv) + mv) < (own_ps (0 : Int32) ((0 : Int32) + (1 : Int32)) nv))))])) _
          refine XS.isub X208.here hx rfl (hb hby at_188) rfl ?_
          exact kZ)
        have pre211 : ∀ tZ, Steps p.tables e below (T208.setTop (mkF m 197 #[.val (.int p0), .val (.int p1), .val (.int p2), .val (.int p3), .val (.int (1 : Int32)), .val (.int (own_b (¬ ((p0 &&& (2 : Int32)) = (0 : Int32))))), .val (.int (1 : Int32)), .val (.int mv), .val (.int nv), .val (.ref b189), .val (.int (own_b ((0 : Int32) < ((0 : Int32) + (1 : Int32))))), .val (.int (own_b (((own_pl (0 : Int32) nv) + mv) < (own_ps (0 : Int32) ((0 : Int32) + (1 : Int32)) nv))))] [(.int (own_b ((0 : Int32) < (((1 : Int32) - mv) - nv)))), (.int (own_b (((own_pl (0 : Int32) nv) + mv) < (own_ps (0 : Int32) ((0 : Int32) + (1 : Int32)) nv))))])) tZ → Steps p.tables e below (s₁.setTop (entryFrame m #[(.int p0), (.int p1), (.int p2), (.int p3)] maxLocals)) tZ := fun tZ kZ => pre209 tZ (by
          by_cases hc210 : (0 : Int32) < (((1 : Int32) - mv) - nv)
          ·  -- yes
            show Steps p.tables e below (T208.setTop (mkF m 189 #[.val (.int p0), .val (.int p1), .val (.int p2), .val (.int p3), .val (.int (1 : Int32)), .val (.int (own_b (¬ ((p0 &&& (2 : Int32)) = (0 : Int32))))), .val (.int (1 : Int32)), .val (.int mv), .val (.int nv), .val (.ref b189), .val (.int (own_b ((0 : Int32) < ((0 : Int32) + (1 : Int32))))), .val (.int (own_b (((own_pl (0 : Int32) nv) + mv) < (own_ps (0 : Int32) ((0 : Int32) + (1 : Int32)) nv))))] [(.int (((1 : Int32) - mv) - nv)), (.int (own_b (((own_pl (0 : Int32) nv) + mv) < (own_ps (0 : Int32) ((0 : Int32) + (1 : Int32)) nv))))])) _
            refine XS.ifNo X208.here hx rfl (hb hby at_189) rfl ((if0 _ _).trans (tlt hc210).2.2.2) ?_
            show Steps p.tables e below (T208.setTop (mkF m 192 #[.val (.int p0), .val (.int p1), .val (.int p2), .val (.int p3), .val (.int (1 : Int32)), .val (.int (own_b (¬ ((p0 &&& (2 : Int32)) = (0 : Int32))))), .val (.int (1 : Int32)), .val (.int mv), .val (.int nv), .val (.ref b189), .val (.int (own_b ((0 : Int32) < ((0 : Int32) + (1 : Int32))))), .val (.int (own_b (((own_pl (0 : Int32) nv) + mv) < (own_ps (0 : Int32) ((0 : Int32) + (1 : Int32)) nv))))] [(.int (own_b (((own_pl (0 : Int32) nv) + mv) < (own_ps (0 : Int32) ((0 : Int32) + (1 : Int32)) nv))))])) _
            refine XS.iconst X208.here hx rfl (hb hby at_192) ?_
            show Steps p.tables e below (T208.setTop (mkF m 193 #[.val (.int p0), .val (.int p1), .val (.int p2), .val (.int p3), .val (.int (1 : Int32)), .val (.int (own_b (¬ ((p0 &&& (2 : Int32)) = (0 : Int32))))), .val (.int (1 : Int32)), .val (.int mv), .val (.int nv), .val (.ref b189), .val (.int (own_b ((0 : Int32) < ((0 : Int32) + (1 : Int32))))), .val (.int (own_b (((own_pl (0 : Int32) nv) + mv) < (own_ps (0 : Int32) ((0 : Int32) + (1 : Int32)) nv))))] [(.int (1 : Int32)), (.int (own_b (((own_pl (0 : Int32) nv) + mv) < (own_ps (0 : Int32) ((0 : Int32) + (1 : Int32)) nv))))])) _
            refine XS.goto X208.here hx rfl (pc0 := 193) (pc' := 197) rfl (hb hby at_193) (by decide) (by decide) ?_
            have ekZ : (own_b ((0 : Int32) < (((1 : Int32) - mv) - nv))) = (1 : Int32) := by first | (simp only [own_b, eq_true hc210, and_true, true_and, and_false, false_and, or_true, true_or, or_false, false_or, not_true_eq_false, not_false_eq_true, if_true, if_false, reduceIte]; done) | (simp [own_b, hc210]; done)
            rw [ekZ] at kZ
            exact kZ
          ·  -- no
            show Steps p.tables e below (T208.setTop (mkF m 189 #[.val (.int p0), .val (.int p1), .val (.int p2), .val (.int p3), .val (.int (1 : Int32)), .val (.int (own_b (¬ ((p0 &&& (2 : Int32)) = (0 : Int32))))), .val (.int (1 : Int32)), .val (.int mv), .val (.int nv), .val (.ref b189), .val (.int (own_b ((0 : Int32) < ((0 : Int32) + (1 : Int32))))), .val (.int (own_b (((own_pl (0 : Int32) nv) + mv) < (own_ps (0 : Int32) ((0 : Int32) + (1 : Int32)) nv))))] [(.int (((1 : Int32) - mv) - nv)), (.int (own_b (((own_pl (0 : Int32) nv) + mv) < (own_ps (0 : Int32) ((0 : Int32) + (1 : Int32)) nv))))])) _
            refine XS.ifYes X208.here hx rfl (pc0 := 189) (pc' := 196) rfl (hb hby at_189) rfl ((if0 _ _).trans (flt hc210).2.2.2) (by decide) (by decide) ?_
            show Steps p.tables e below (T208.setTop (mkF m 196 #[.val (.int p0), .val (.int p1), .val (.int p2), .val (.int p3), .val (.int (1 : Int32)), .val (.int (own_b (¬ ((p0 &&& (2 : Int32)) = (0 : Int32))))), .val (.int (1 : Int32)), .val (.int mv), .val (.int nv), .val (.ref b189), .val (.int (own_b ((0 : Int32) < ((0 : Int32) + (1 : Int32))))), .val (.int (own_b (((own_pl (0 : Int32) nv) + mv) < (own_ps (0 : Int32) ((0 : Int32) + (1 : Int32)) nv))))] [(.int (own_b (((own_pl (0 : Int32) nv) + mv) < (own_ps (0 : Int32) ((0 : Int32) + (1 : Int32)) nv))))])) _
            refine XS.iconst X208.here hx rfl (hb hby at_196) ?_
            have ekZ : (own_b ((0 : Int32) < (((1 : Int32) - mv) - nv))) = (0 : Int32) := by first | (simp only [own_b, eq_false hc210, and_true, true_and, and_false, false_and, or_true, true_or, or_false, false_or, not_true_eq_false, not_false_eq_true, if_true, if_false, reduceIte]; done) | (simp [own_b, hc210]; done)
            rw [ekZ] at kZ
            exact kZ)
        obtain ⟨fsZ, hrZ, hrun, hended, hW, hsame⟩ := X208.leave (v := some (.int (1 : Int32))) (fun h => by rw [Bd.returns] at h; cases h)
        refine ⟨_, _, pre211 _ ?_, hrun, hended, _, _, rfl, ?_, ⟨_, rfl⟩, hW, hsame.mono (by decide) (by decide)⟩
        · show Steps p.tables e below (T208.setTop (mkF m 197 #[.val (.int p0), .val (.int p1), .val (.int p2), .val (.int p3), .val (.int (1 : Int32)), .val (.int (own_b (¬ ((p0 &&& (2 : Int32)) = (0 : Int32))))), .val (.int (1 : Int32)), .val (.int mv), .val (.int nv), .val (.ref b189), .val (.int (own_b ((0 : Int32) < ((0 : Int32) + (1 : Int32))))), .val (.int (own_b (((own_pl (0 : Int32) nv) + mv) < (own_ps (0 : Int32) ((0 : Int32) + (1 : Int32)) nv))))] [(.int (own_b ((0 : Int32) < (((1 : Int32) - mv) - nv)))), (.int (own_b (((own_pl (0 : Int32) nv) + mv) < (own_ps (0 : Int32) ((0 : Int32) + (1 : Int32)) nv))))])) _
          refine XS.icmpNo X208.here hx rfl (hb hby at_197) rfl (teq (own_fin_p (by decide) hm4 hn4 hm3.2.2 hn3.2.2)).2 ?_
          show Steps p.tables e below (T208.setTop (mkF m 200 #[.val (.int p0), .val (.int p1), .val (.int p2), .val (.int p3), .val (.int (1 : Int32)), .val (.int (own_b (¬ ((p0 &&& (2 : Int32)) = (0 : Int32))))), .val (.int (1 : Int32)), .val (.int mv), .val (.int nv), .val (.ref b189), .val (.int (own_b ((0 : Int32) < ((0 : Int32) + (1 : Int32))))), .val (.int (own_b (((own_pl (0 : Int32) nv) + mv) < (own_ps (0 : Int32) ((0 : Int32) + (1 : Int32)) nv))))] [])) _
          refine XS.iconst X208.here hx rfl (hb hby at_200) ?_
          show Steps p.tables e below (T208.setTop (mkF m 201 #[.val (.int p0), .val (.int p1), .val (.int p2), .val (.int p3), .val (.int (1 : Int32)), .val (.int (own_b (¬ ((p0 &&& (2 : Int32)) = (0 : Int32))))), .val (.int (1 : Int32)), .val (.int mv), .val (.int nv), .val (.ref b189), .val (.int (own_b ((0 : Int32) < ((0 : Int32) + (1 : Int32))))), .val (.int (own_b (((own_pl (0 : Int32) nv) + mv) < (own_ps (0 : Int32) ((0 : Int32) + (1 : Int32)) nv))))] [(.int (1 : Int32))])) _
          refine XS.goto X208.here hx rfl (pc0 := 201) (pc' := 205) rfl (hb hby at_201) (by decide) (by decide) ?_
          show Steps p.tables e below (T208.setTop (mkF m 205 #[.val (.int p0), .val (.int p1), .val (.int p2), .val (.int p3), .val (.int (1 : Int32)), .val (.int (own_b (¬ ((p0 &&& (2 : Int32)) = (0 : Int32))))), .val (.int (1 : Int32)), .val (.int mv), .val (.int nv), .val (.ref b189), .val (.int (own_b ((0 : Int32) < ((0 : Int32) + (1 : Int32))))), .val (.int (own_b (((own_pl (0 : Int32) nv) + mv) < (own_ps (0 : Int32) ((0 : Int32) + (1 : Int32)) nv))))] [(.int (1 : Int32))])) _
          exact retN X208 hx (t := .boolean) Bd.returns (by simp) (hb hby at_205) hrZ
        · show Q0 Z p0 p1 p2 p3 h0 n0 _ T208.heap _
          rw [e208]
          exact ⟨rfl, N208⟩
      ·  -- no
        obtain ⟨_, _, ⟨T212, L212, k212, n212⟩, -, X212, ⟨Lc212, hQ212, l212, y212, z212⟩, st212⟩ := Jvm.LawKit.callS X200 hx (y := (⟨oL, "doMarks", "(Lcom/example/portunus/portunus/policy/Run;I)V"⟩ : MethodName)) hown (mvT hZ (ow hw 45 rfl)) (mvT hZ (ow hw 46 rfl)) (mvT hZ (ow hw 47 rfl)) (mvT hZ (ow hw 48 rfl)) (by decide) (backOf (W := 0) (rm8d l Z a0 hw [] b189 mv tk_192 ((0 : Int32) + (1 : Int32)) (0 : Int32) (0 : Int32) kt_193 dd_194 T198.heap n0 Z199 f198_0 f198_1 f198_2 f198_3 f198_4 f198_5 f198_6 gn_b189 u191_0 ne196 f198_7 u191_2 ne197 u191_4 hm4) hZ (ow hw 48 rfl) (ow hw 47 rfl) (by decide) (by decide)) (g := (mkF m 147 #[.val (.int p0), .val (.int p1), .val (.int p2), .val (.int p3), .val (.int (1 : Int32)), .val (.int (own_b (¬ ((p0 &&& (2 : Int32)) = (0 : Int32))))), .val (.int (1 : Int32)), .val (.int mv), .val (.int nv), .val (.ref b189), .val (.int (own_b ((0 : Int32) < ((0 : Int32) + (1 : Int32))))), .unset] [(.int mv), (.ref b189)])) rfl (by rw [hml]; rfl) (argsL := [(.ref b189), (.int mv)]) (rest := []) (lenOf pd9 rfl) rfl (by show 2 * 0 + _ ≤ _; exact Nat.le_of_eq rfl) (hb hby at_147) (fun _ _ => ⟨rfl, e200, (by decide : 3 + 0 ≤ _), (by decide : 21 + 0 ≤ _)⟩)
        dsimp only [Pt.U, Pt.locs, Pt.cells, Pt.slots] at X212 l212 y212 z212 st212 hQ212
        subst l212 y212 z212
        obtain ⟨rfl, N212q, K212, f212_0, f212_1, f212_2, f212_3, f212_4, f212_5, f212_6, f212_7⟩ := hQ212
        have N212 := Fr.app N200 N212q
        have Z213 : n0 ≤ T212.heap.size := Nat.le_trans Z199 K212.1
        obtain ⟨_, _, ⟨T214, L214, k214, n214⟩, -, X214, ⟨Lc214, hQ214, l214, y214, z214⟩, st214⟩ := Jvm.LawKit.callS X212 hx (y := (⟨oL, "doPolls", "(Lcom/example/portunus/portunus/policy/Run;I)V"⟩ : MethodName)) hown (mvT hZ (ow hw 54 rfl)) (mvT hZ (ow hw 55 rfl)) (mvT hZ (ow hw 47 rfl)) (mvT hZ (ow hw 56 rfl)) (by decide) (backOf (W := 0) (rm10d l Z a0 hw [] b189 nv tk_192 ((0 : Int32) + (1 : Int32)) ((0 : Int32) + mv) (0 : Int32) kt_193 dd_194 T212.heap n0 Z213 f212_0 f212_1 f212_2 f212_3 f212_4 f212_5 f212_6 gn_b189 u191_0 ne196 f212_7 u191_2 ne197 u191_4 hn4 (own_nz1 hm4)) hZ (ow hw 56 rfl) (ow hw 47 rfl) (by decide) (by decide)) (g := (mkF m 154 #[.val (.int p0), .val (.int p1), .val (.int p2), .val (.int p3), .val (.int (1 : Int32)), .val (.int (own_b (¬ ((p0 &&& (2 : Int32)) = (0 : Int32))))), .val (.int (1 : Int32)), .val (.int mv), .val (.int nv), .val (.ref b189), .val (.int (own_b ((0 : Int32) < ((0 : Int32) + (1 : Int32))))), .unset] [(.int nv), (.ref b189)])) rfl (by rw [hml]; rfl) (argsL := [(.ref b189), (.int nv)]) (rest := []) (lenOf pd9 rfl) rfl (by show 2 * 0 + _ ≤ _; exact Nat.le_of_eq rfl) (hb hby at_154) (fun _ _ => ⟨rfl, rfl, (by decide : 3 + 0 ≤ _), (by decide : 21 + 0 ≤ _)⟩)
        dsimp only [Pt.U, Pt.locs, Pt.cells, Pt.slots] at X214 l214 y214 z214 st214 hQ214
        subst l214 y214 z214
        obtain ⟨fn_215, rfl, N214q, K214, f214_0, f214_1, f214_2, f214_3, f214_4, f214_5, f214_6, f214_7⟩ := hQ214
        have N214 := Fr.app N212 N214q
        have Z216 : n0 ≤ T214.heap.size := Nat.le_trans Z213 K214.1
        obtain ⟨cq217, kq217, q217a, q217b, q217c⟩ := isOf hZ rfl f214_0
        obtain ⟨_, _, ⟨T217, L217, k217, n217⟩, -, X217, ⟨Lc217, hQ217, l217, y217, z217⟩, st217⟩ := X214.virtualBack hx (y := (⟨oR, "hasOther", "()Z"⟩ : MethodName)) (z := (⟨oR, "hasOther", "()Z"⟩ : MethodName)) hown (mvT hZ (ow hw 38 rfl)) (mvT hZ (ow hw 39 rfl)) (notFace_of_selects (args := #[]) (mvT hZ (ow hw 41 rfl))) (mvT hZ (ow hw 41 rfl)) (mvT hZ (ow hw 40 rfl)) (by decide) (backOf (W := 0) (rm7 l Z a0 hw [] b189 (own_ps ((0 : Int32) + mv) ((0 : Int32) + (1 : Int32)) nv) (own_pl ((0 : Int32) + mv) nv) T214.heap n0 Z216 f214_3 f214_4) hZ (ow hw 42 rfl) (ow hw 7 rfl) (by decide) (by decide)) q217a q217c (g := (mkF m 159 #[.val (.int p0), .val (.int p1), .val (.int p2), .val (.int p3), .val (.int (1 : Int32)), .val (.int (own_b (¬ ((p0 &&& (2 : Int32)) = (0 : Int32))))), .val (.int (1 : Int32)), .val (.int mv), .val (.int nv), .val (.ref b189), .val (.int (own_b ((0 : Int32) < ((0 : Int32) + (1 : Int32))))), .unset] [(.ref b189)])) rfl (by rw [hml]; rfl) (Steps.refl _) (argsL := []) (rest := []) (lenOf pd8 rfl) rfl (by show 2 * 0 + _ ≤ _; exact Nat.le_of_eq rfl) (hb hby at_159) (fun _ _ => ⟨rfl, rfl, (by decide : 3 + 0 ≤ _), (by decide : 21 + 0 ≤ _)⟩)
        dsimp only [Pt.U, Pt.locs, Pt.cells, Pt.slots] at X217 l217 y217 z217 st217 hQ217
        subst l217 y217 z217
        obtain ⟨rfl, N217q, e217⟩ := hQ217
        have N217 := Fr.app N214 N217q
        have pre218 : ∀ tZ, Steps p.tables e below (T217.setTop (mkF m 189 #[.val (.int p0), .val (.int p1), .val (.int p2), .val (.int p3), .val (.int (1 : Int32)), .val (.int (own_b (¬ ((p0 &&& (2 : Int32)) = (0 : Int32))))), .val (.int (1 : Int32)), .val (.int mv), .val (.int nv), .val (.ref b189), .val (.int (own_b ((0 : Int32) < ((0 : Int32) + (1 : Int32))))), .val (.int (own_b ((own_pl ((0 : Int32) + mv) nv) < (own_ps ((0 : Int32) + mv) ((0 : Int32) + (1 : Int32)) nv))))] [(.int (((1 : Int32) - mv) - nv)), (.int (own_b ((own_pl ((0 : Int32) + mv) nv) < (own_ps ((0 : Int32) + mv) ((0 : Int32) + (1 : Int32)) nv))))])) tZ → Steps p.tables e below (s₁.setTop (entryFrame m #[(.int p0), (.int p1), (.int p2), (.int p3)] maxLocals)) tZ := fun tZ kZ => pre201 tZ (by
          show Steps p.tables e below (T200.setTop (mkF m 123 #[.val (.int p0), .val (.int p1), .val (.int p2), .val (.int p3), .val (.int (1 : Int32)), .val (.int (own_b (¬ ((p0 &&& (2 : Int32)) = (0 : Int32))))), .val (.int (1 : Int32)), .val (.int mv), .val (.int nv), .val (.ref b189), .val (.int (own_b ((0 : Int32) < ((0 : Int32) + (1 : Int32))))), .unset] [(.int (own_b (¬ ((p0 &&& (2 : Int32)) = (0 : Int32)))))])) _
          refine XS.ifYes X200.here hx rfl (pc0 := 123) (pc' := 143) rfl (hb hby at_123) rfl ((if0 _ _).trans (teq (own_b_f hc202)).1) (by decide) (by decide) ?_
          show Steps p.tables e below (T200.setTop (mkF m 143 #[.val (.int p0), .val (.int p1), .val (.int p2), .val (.int p3), .val (.int (1 : Int32)), .val (.int (own_b (¬ ((p0 &&& (2 : Int32)) = (0 : Int32))))), .val (.int (1 : Int32)), .val (.int mv), .val (.int nv), .val (.ref b189), .val (.int (own_b ((0 : Int32) < ((0 : Int32) + (1 : Int32))))), .unset] [])) _
          refine XS.aload X200.here hx rfl (hb hby at_143) rfl rfl ?_
          show Steps p.tables e below (T200.setTop (mkF m 145 #[.val (.int p0), .val (.int p1), .val (.int p2), .val (.int p3), .val (.int (1 : Int32)), .val (.int (own_b (¬ ((p0 &&& (2 : Int32)) = (0 : Int32))))), .val (.int (1 : Int32)), .val (.int mv), .val (.int nv), .val (.ref b189), .val (.int (own_b ((0 : Int32) < ((0 : Int32) + (1 : Int32))))), .unset] [(.ref b189)])) _
          refine XS.iload X200.here hx rfl (hb hby at_145) rfl  ?_
          show Steps p.tables e below (T200.setTop (mkF m 147 #[.val (.int p0), .val (.int p1), .val (.int p2), .val (.int p3), .val (.int (1 : Int32)), .val (.int (own_b (¬ ((p0 &&& (2 : Int32)) = (0 : Int32))))), .val (.int (1 : Int32)), .val (.int mv), .val (.int nv), .val (.ref b189), .val (.int (own_b ((0 : Int32) < ((0 : Int32) + (1 : Int32))))), .unset] [(.int mv), (.ref b189)])) _
          refine st212 _ ?_
          show Steps p.tables e below (T212.setTop (mkF m 150 #[.val (.int p0), .val (.int p1), .val (.int p2), .val (.int p3), .val (.int (1 : Int32)), .val (.int (own_b (¬ ((p0 &&& (2 : Int32)) = (0 : Int32))))), .val (.int (1 : Int32)), .val (.int mv), .val (.int nv), .val (.ref b189), .val (.int (own_b ((0 : Int32) < ((0 : Int32) + (1 : Int32))))), .unset] [])) _
          refine XS.aload X212.here hx rfl (hb hby at_150) rfl rfl ?_
          show Steps p.tables e below (T212.setTop (mkF m 152 #[.val (.int p0), .val (.int p1), .val (.int p2), .val (.int p3), .val (.int (1 : Int32)), .val (.int (own_b (¬ ((p0 &&& (2 : Int32)) = (0 : Int32))))), .val (.int (1 : Int32)), .val (.int mv), .val (.int nv), .val (.ref b189), .val (.int (own_b ((0 : Int32) < ((0 : Int32) + (1 : Int32))))), .unset] [(.ref b189)])) _
          refine XS.iload X212.here hx rfl (hb hby at_152) rfl  ?_
          show Steps p.tables e below (T212.setTop (mkF m 154 #[.val (.int p0), .val (.int p1), .val (.int p2), .val (.int p3), .val (.int (1 : Int32)), .val (.int (own_b (¬ ((p0 &&& (2 : Int32)) = (0 : Int32))))), .val (.int (1 : Int32)), .val (.int mv), .val (.int nv), .val (.ref b189), .val (.int (own_b ((0 : Int32) < ((0 : Int32) + (1 : Int32))))), .unset] [(.int nv), (.ref b189)])) _
          refine st214 _ ?_
          show Steps p.tables e below (T214.setTop (mkF m 157 #[.val (.int p0), .val (.int p1), .val (.int p2), .val (.int p3), .val (.int (1 : Int32)), .val (.int (own_b (¬ ((p0 &&& (2 : Int32)) = (0 : Int32))))), .val (.int (1 : Int32)), .val (.int mv), .val (.int nv), .val (.ref b189), .val (.int (own_b ((0 : Int32) < ((0 : Int32) + (1 : Int32))))), .unset] [])) _
          refine XS.aload X214.here hx rfl (hb hby at_157) rfl rfl ?_
          show Steps p.tables e below (T214.setTop (mkF m 159 #[.val (.int p0), .val (.int p1), .val (.int p2), .val (.int p3), .val (.int (1 : Int32)), .val (.int (own_b (¬ ((p0 &&& (2 : Int32)) = (0 : Int32))))), .val (.int (1 : Int32)), .val (.int mv), .val (.int nv), .val (.ref b189), .val (.int (own_b ((0 : Int32) < ((0 : Int32) + (1 : Int32))))), .unset] [(.ref b189)])) _
          refine st217.trans ?_
          show Steps p.tables e below (T217.setTop (mkF m 162 #[.val (.int p0), .val (.int p1), .val (.int p2), .val (.int p3), .val (.int (1 : Int32)), .val (.int (own_b (¬ ((p0 &&& (2 : Int32)) = (0 : Int32))))), .val (.int (1 : Int32)), .val (.int mv), .val (.int nv), .val (.ref b189), .val (.int (own_b ((0 : Int32) < ((0 : Int32) + (1 : Int32))))), .unset] [(.int (own_b ((own_pl ((0 : Int32) + mv) nv) < (own_ps ((0 : Int32) + mv) ((0 : Int32) + (1 : Int32)) nv))))])) _
          refine XS.istore X217.here hx rfl (hb hby at_162) rfl (l' := #[.val (.int p0), .val (.int p1), .val (.int p2), .val (.int p3), .val (.int (1 : Int32)), .val (.int (own_b (¬ ((p0 &&& (2 : Int32)) = (0 : Int32))))), .val (.int (1 : Int32)), .val (.int mv), .val (.int nv), .val (.ref b189), .val (.int (own_b ((0 : Int32) < ((0 : Int32) + (1 : Int32))))), .val (.int (own_b ((own_pl ((0 : Int32) + mv) nv) < (own_ps ((0 : Int32) + mv) ((0 : Int32) + (1 : Int32)) nv))))]) rfl ?_
          show Steps p.tables e below (T217.setTop (mkF m 164 #[.val (.int p0), .val (.int p1), .val (.int p2), .val (.int p3), .val (.int (1 : Int32)), .val (.int (own_b (¬ ((p0 &&& (2 : Int32)) = (0 : Int32))))), .val (.int (1 : Int32)), .val (.int mv), .val (.int nv), .val (.ref b189), .val (.int (own_b ((0 : Int32) < ((0 : Int32) + (1 : Int32))))), .val (.int (own_b ((own_pl ((0 : Int32) + mv) nv) < (own_ps ((0 : Int32) + mv) ((0 : Int32) + (1 : Int32)) nv))))] [])) _
          refine XS.iload X217.here hx rfl (hb hby at_164) rfl  ?_
          show Steps p.tables e below (T217.setTop (mkF m 166 #[.val (.int p0), .val (.int p1), .val (.int p2), .val (.int p3), .val (.int (1 : Int32)), .val (.int (own_b (¬ ((p0 &&& (2 : Int32)) = (0 : Int32))))), .val (.int (1 : Int32)), .val (.int mv), .val (.int nv), .val (.ref b189), .val (.int (own_b ((0 : Int32) < ((0 : Int32) + (1 : Int32))))), .val (.int (own_b ((own_pl ((0 : Int32) + mv) nv) < (own_ps ((0 : Int32) + mv) ((0 : Int32) + (1 : Int32)) nv))))] [(.int (own_b ((0 : Int32) < ((0 : Int32) + (1 : Int32)))))])) _
          refine XS.iload X217.here hx rfl (hb hby at_166) rfl  ?_
          show Steps p.tables e below (T217.setTop (mkF m 168 #[.val (.int p0), .val (.int p1), .val (.int p2), .val (.int p3), .val (.int (1 : Int32)), .val (.int (own_b (¬ ((p0 &&& (2 : Int32)) = (0 : Int32))))), .val (.int (1 : Int32)), .val (.int mv), .val (.int nv), .val (.ref b189), .val (.int (own_b ((0 : Int32) < ((0 : Int32) + (1 : Int32))))), .val (.int (own_b ((own_pl ((0 : Int32) + mv) nv) < (own_ps ((0 : Int32) + mv) ((0 : Int32) + (1 : Int32)) nv))))] [(.int (1 : Int32)), (.int (own_b ((0 : Int32) < ((0 : Int32) + (1 : Int32)))))])) _
          refine XS.ifNo X217.here hx rfl (hb hby at_168) rfl ((if0 _ _).trans (tlt (by decide)).2.2.2) ?_
          show Steps p.tables e below (T217.setTop (mkF m 171 #[.val (.int p0), .val (.int p1), .val (.int p2), .val (.int p3), .val (.int (1 : Int32)), .val (.int (own_b (¬ ((p0 &&& (2 : Int32)) = (0 : Int32))))), .val (.int (1 : Int32)), .val (.int mv), .val (.int nv), .val (.ref b189), .val (.int (own_b ((0 : Int32) < ((0 : Int32) + (1 : Int32))))), .val (.int (own_b ((own_pl ((0 : Int32) + mv) nv) < (own_ps ((0 : Int32) + mv) ((0 : Int32) + (1 : Int32)) nv))))] [(.int (own_b ((0 : Int32) < ((0 : Int32) + (1 : Int32)))))])) _
          refine XS.iconst X217.here hx rfl (hb hby at_171) ?_
          show Steps p.tables e below (T217.setTop (mkF m 172 #[.val (.int p0), .val (.int p1), .val (.int p2), .val (.int p3), .val (.int (1 : Int32)), .val (.int (own_b (¬ ((p0 &&& (2 : Int32)) = (0 : Int32))))), .val (.int (1 : Int32)), .val (.int mv), .val (.int nv), .val (.ref b189), .val (.int (own_b ((0 : Int32) < ((0 : Int32) + (1 : Int32))))), .val (.int (own_b ((own_pl ((0 : Int32) + mv) nv) < (own_ps ((0 : Int32) + mv) ((0 : Int32) + (1 : Int32)) nv))))] [(.int (1 : Int32)), (.int (own_b ((0 : Int32) < ((0 : Int32) + (1 : Int32)))))])) _
          refine XS.goto X217.here hx rfl (pc0 := 172) (pc' := 176) rfl (hb hby at_172) (by decide) (by decide) ?_
          show Steps p.tables e below (T217.setTop (mkF m 176 #[.val (.int p0), .val (.int p1), .val (.int p2), .val (.int p3), .val (.int (1 : Int32)), .val (.int (own_b (¬ ((p0 &&& (2 : Int32)) = (0 : Int32))))), .val (.int (1 : Int32)), .val (.int mv), .val (.int nv), .val (.ref b189), .val (.int (own_b ((0 : Int32) < ((0 : Int32) + (1 : Int32))))), .val (.int (own_b ((own_pl ((0 : Int32) + mv) nv) < (own_ps ((0 : Int32) + mv) ((0 : Int32) + (1 : Int32)) nv))))] [(.int (1 : Int32)), (.int (own_b ((0 : Int32) < ((0 : Int32) + (1 : Int32)))))])) _
          refine XS.icmpNo X217.here hx rfl (hb hby at_176) rfl (teq (by decide)).2 ?_
          show Steps p.tables e below (T217.setTop (mkF m 179 #[.val (.int p0), .val (.int p1), .val (.int p2), .val (.int p3), .val (.int (1 : Int32)), .val (.int (own_b (¬ ((p0 &&& (2 : Int32)) = (0 : Int32))))), .val (.int (1 : Int32)), .val (.int mv), .val (.int nv), .val (.ref b189), .val (.int (own_b ((0 : Int32) < ((0 : Int32) + (1 : Int32))))), .val (.int (own_b ((own_pl ((0 : Int32) + mv) nv) < (own_ps ((0 : Int32) + mv) ((0 : Int32) + (1 : Int32)) nv))))] [])) _
          refine XS.iload X217.here hx rfl (hb hby at_179) rfl  ?_
          show Steps p.tables e below (T217.setTop (mkF m 181 #[.val (.int p0), .val (.int p1), .val (.int p2), .val (.int p3), .val (.int (1 : Int32)), .val (.int (own_b (¬ ((p0 &&& (2 : Int32)) = (0 : Int32))))), .val (.int (1 : Int32)), .val (.int mv), .val (.int nv), .val (.ref b189), .val (.int (own_b ((0 : Int32) < ((0 : Int32) + (1 : Int32))))), .val (.int (own_b ((own_pl ((0 : Int32) + mv) nv) < (own_ps ((0 : Int32) + mv) ((0 : Int32) + (1 : Int32)) nv))))] [(.int (own_b ((own_pl ((0 : Int32) + mv) nv) < (own_ps ((0 : Int32) + mv) ((0 : Int32) + (1 : Int32)) nv))))])) _
          refine XS.iload X217.here hx rfl (hb hby at_181) rfl  ?_
          show Steps p.tables e below (T217.setTop (mkF m 183 #[.val (.int p0), .val (.int p1), .val (.int p2), .val (.int p3), .val (.int (1 : Int32)), .val (.int (own_b (¬ ((p0 &&& (2 : Int32)) = (0 : Int32))))), .val (.int (1 : Int32)), .val (.int mv), .val (.int nv), .val (.ref b189), .val (.int (own_b ((0 : Int32) < ((0 : Int32) + (1 : Int32))))), .val (.int (own_b ((own_pl ((0 : Int32) + mv) nv) < (own_ps ((0 : Int32) + mv) ((0 : Int32) + (1 : Int32)) nv))))] [(.int (1 : Int32)), (.int (own_b ((own_pl ((0 : Int32) + mv) nv) < (own_ps ((0 : Int32) + mv) ((0 : Int32) + (1 : Int32)) nv))))])) _
          refine XS.iload X217.here hx rfl (hb hby at_183) rfl  ?_
          show Steps p.tables e below (T217.setTop (mkF m 185 #[.val (.int p0), .val (.int p1), .val (.int p2), .val (.int p3), .val (.int (1 : Int32)), .val (.int (own_b (¬ ((p0 &&& (2 : Int32)) = (0 : Int32))))), .val (.int (1 : Int32)), .val (.int mv), .val (.int nv), .val (.ref b189), .val (.int (own_b ((0 : Int32) < ((0 : Int32) + (1 : Int32))))), .val (.int (own_b ((own_pl ((0 : Int32) + mv) nv) < (own_ps ((0 : Int32) + mv) ((0 : Int32) + (1 : Int32)) nv))))] [(.int mv), (.int (1 : Int32)), (.int (own_b ((own_pl ((0 : Int32) + mv) nv) < (own_ps ((0 : Int32) + mv) ((0 : Int32) + (1 : Int32)) nv))))])) _
          refine XS.isub X217.here hx rfl (hb hby at_185) rfl ?_
          show Steps p.tables e below (T217.setTop (mkF m 186 #[.val (.int p0), .val (.int p1), .val (.int p2), .val (.int p3), .val (.int (1 : Int32)), .val (.int (own_b (¬ ((p0 &&& (2 : Int32)) = (0 : Int32))))), .val (.int (1 : Int32)), .val (.int mv), .val (.int nv), .val (.ref b189), .val (.int (own_b ((0 : Int32) < ((0 : Int32) + (1 : Int32))))), .val (.int (own_b ((own_pl ((0 : Int32) + mv) nv) < (own_ps ((0 : Int32) + mv) ((0 : Int32) + (1 : Int32)) nv))))] [(.int ((1 : Int32) - mv)), (.int (own_b ((own_pl ((0 : Int32) + mv) nv) < (own_ps ((0 : Int32) + mv) ((0 : Int32) + (1 : Int32)) nv))))])) _
          refine XS.iload X217.here hx rfl (hb hby at_186) rfl  ?_
          show Steps p.tables e below (T217.setTop (mkF m 188 #[.val (.int p0), .val (.int p1), .val (.int p2), .val (.int p3), .val (.int (1 : Int32)), .val (.int (own_b (¬ ((p0 &&& (2 : Int32)) = (0 : Int32))))), .val (.int (1 : Int32)), .val (.int mv), .val (.int nv), .val (.ref b189), .val (.int (own_b ((0 : Int32) < ((0 : Int32) + (1 : Int32))))), .val (.int (own_b ((own_pl ((0 : Int32) + mv) nv) < (own_ps ((0 : Int32) + mv) ((0 : Int32) + (1 : Int32)) nv))))] [(.int nv), (.int ((1 : Int32) - mv)), (.int (own_b ((own_pl ((0 : Int32) + mv) nv) < (own_ps ((0 : Int32) + mv) ((0 : Int32) + (1 : Int32)) nv))))])) _
          refine XS.isub X217.here hx rfl (hb hby at_188) rfl ?_
          exact kZ)
        have pre220 : ∀ tZ, Steps p.tables e below (T217.setTop (mkF m 197 #[.val (.int p0), .val (.int p1), .val (.int p2), .val (.int p3), .val (.int (1 : Int32)), .val (.int (own_b (¬ ((p0 &&& (2 : Int32)) = (0 : Int32))))), .val (.int (1 : Int32)), .val (.int mv), .val (.int nv), .val (.ref b189), .val (.int (own_b ((0 : Int32) < ((0 : Int32) + (1 : Int32))))), .val (.int (own_b ((own_pl ((0 : Int32) + mv) nv) < (own_ps ((0 : Int32) + mv) ((0 : Int32) + (1 : Int32)) nv))))] [(.int (own_b ((0 : Int32) < (((1 : Int32) - mv) - nv)))), (.int (own_b ((own_pl ((0 : Int32) + mv) nv) < (own_ps ((0 : Int32) + mv) ((0 : Int32) + (1 : Int32)) nv))))])) tZ → Steps p.tables e below (s₁.setTop (entryFrame m #[(.int p0), (.int p1), (.int p2), (.int p3)] maxLocals)) tZ := fun tZ kZ => pre218 tZ (by
          by_cases hc219 : (0 : Int32) < (((1 : Int32) - mv) - nv)
          ·  -- yes
            show Steps p.tables e below (T217.setTop (mkF m 189 #[.val (.int p0), .val (.int p1), .val (.int p2), .val (.int p3), .val (.int (1 : Int32)), .val (.int (own_b (¬ ((p0 &&& (2 : Int32)) = (0 : Int32))))), .val (.int (1 : Int32)), .val (.int mv), .val (.int nv), .val (.ref b189), .val (.int (own_b ((0 : Int32) < ((0 : Int32) + (1 : Int32))))), .val (.int (own_b ((own_pl ((0 : Int32) + mv) nv) < (own_ps ((0 : Int32) + mv) ((0 : Int32) + (1 : Int32)) nv))))] [(.int (((1 : Int32) - mv) - nv)), (.int (own_b ((own_pl ((0 : Int32) + mv) nv) < (own_ps ((0 : Int32) + mv) ((0 : Int32) + (1 : Int32)) nv))))])) _
            refine XS.ifNo X217.here hx rfl (hb hby at_189) rfl ((if0 _ _).trans (tlt hc219).2.2.2) ?_
            show Steps p.tables e below (T217.setTop (mkF m 192 #[.val (.int p0), .val (.int p1), .val (.int p2), .val (.int p3), .val (.int (1 : Int32)), .val (.int (own_b (¬ ((p0 &&& (2 : Int32)) = (0 : Int32))))), .val (.int (1 : Int32)), .val (.int mv), .val (.int nv), .val (.ref b189), .val (.int (own_b ((0 : Int32) < ((0 : Int32) + (1 : Int32))))), .val (.int (own_b ((own_pl ((0 : Int32) + mv) nv) < (own_ps ((0 : Int32) + mv) ((0 : Int32) + (1 : Int32)) nv))))] [(.int (own_b ((own_pl ((0 : Int32) + mv) nv) < (own_ps ((0 : Int32) + mv) ((0 : Int32) + (1 : Int32)) nv))))])) _
            refine XS.iconst X217.here hx rfl (hb hby at_192) ?_
            show Steps p.tables e below (T217.setTop (mkF m 193 #[.val (.int p0), .val (.int p1), .val (.int p2), .val (.int p3), .val (.int (1 : Int32)), .val (.int (own_b (¬ ((p0 &&& (2 : Int32)) = (0 : Int32))))), .val (.int (1 : Int32)), .val (.int mv), .val (.int nv), .val (.ref b189), .val (.int (own_b ((0 : Int32) < ((0 : Int32) + (1 : Int32))))), .val (.int (own_b ((own_pl ((0 : Int32) + mv) nv) < (own_ps ((0 : Int32) + mv) ((0 : Int32) + (1 : Int32)) nv))))] [(.int (1 : Int32)), (.int (own_b ((own_pl ((0 : Int32) + mv) nv) < (own_ps ((0 : Int32) + mv) ((0 : Int32) + (1 : Int32)) nv))))])) _
            refine XS.goto X217.here hx rfl (pc0 := 193) (pc' := 197) rfl (hb hby at_193) (by decide) (by decide) ?_
            have ekZ : (own_b ((0 : Int32) < (((1 : Int32) - mv) - nv))) = (1 : Int32) := by first | (simp only [own_b, eq_true hc219, and_true, true_and, and_false, false_and, or_true, true_or, or_false, false_or, not_true_eq_false, not_false_eq_true, if_true, if_false, reduceIte]; done) | (simp [own_b, hc219]; done)
            rw [ekZ] at kZ
            exact kZ
          ·  -- no
            show Steps p.tables e below (T217.setTop (mkF m 189 #[.val (.int p0), .val (.int p1), .val (.int p2), .val (.int p3), .val (.int (1 : Int32)), .val (.int (own_b (¬ ((p0 &&& (2 : Int32)) = (0 : Int32))))), .val (.int (1 : Int32)), .val (.int mv), .val (.int nv), .val (.ref b189), .val (.int (own_b ((0 : Int32) < ((0 : Int32) + (1 : Int32))))), .val (.int (own_b ((own_pl ((0 : Int32) + mv) nv) < (own_ps ((0 : Int32) + mv) ((0 : Int32) + (1 : Int32)) nv))))] [(.int (((1 : Int32) - mv) - nv)), (.int (own_b ((own_pl ((0 : Int32) + mv) nv) < (own_ps ((0 : Int32) + mv) ((0 : Int32) + (1 : Int32)) nv))))])) _
            refine XS.ifYes X217.here hx rfl (pc0 := 189) (pc' := 196) rfl (hb hby at_189) rfl ((if0 _ _).trans (flt hc219).2.2.2) (by decide) (by decide) ?_
            show Steps p.tables e below (T217.setTop (mkF m 196 #[.val (.int p0), .val (.int p1), .val (.int p2), .val (.int p3), .val (.int (1 : Int32)), .val (.int (own_b (¬ ((p0 &&& (2 : Int32)) = (0 : Int32))))), .val (.int (1 : Int32)), .val (.int mv), .val (.int nv), .val (.ref b189), .val (.int (own_b ((0 : Int32) < ((0 : Int32) + (1 : Int32))))), .val (.int (own_b ((own_pl ((0 : Int32) + mv) nv) < (own_ps ((0 : Int32) + mv) ((0 : Int32) + (1 : Int32)) nv))))] [(.int (own_b ((own_pl ((0 : Int32) + mv) nv) < (own_ps ((0 : Int32) + mv) ((0 : Int32) + (1 : Int32)) nv))))])) _
            refine XS.iconst X217.here hx rfl (hb hby at_196) ?_
            have ekZ : (own_b ((0 : Int32) < (((1 : Int32) - mv) - nv))) = (0 : Int32) := by first | (simp only [own_b, eq_false hc219, and_true, true_and, and_false, false_and, or_true, true_or, or_false, false_or, not_true_eq_false, not_false_eq_true, if_true, if_false, reduceIte]; done) | (simp [own_b, hc219]; done)
            rw [ekZ] at kZ
            exact kZ)
        obtain ⟨fsZ, hrZ, hrun, hended, hW, hsame⟩ := X217.leave (v := some (.int (1 : Int32))) (fun h => by rw [Bd.returns] at h; cases h)
        refine ⟨_, _, pre220 _ ?_, hrun, hended, _, _, rfl, ?_, ⟨_, rfl⟩, hW, hsame.mono (by decide) (by decide)⟩
        · show Steps p.tables e below (T217.setTop (mkF m 197 #[.val (.int p0), .val (.int p1), .val (.int p2), .val (.int p3), .val (.int (1 : Int32)), .val (.int (own_b (¬ ((p0 &&& (2 : Int32)) = (0 : Int32))))), .val (.int (1 : Int32)), .val (.int mv), .val (.int nv), .val (.ref b189), .val (.int (own_b ((0 : Int32) < ((0 : Int32) + (1 : Int32))))), .val (.int (own_b ((own_pl ((0 : Int32) + mv) nv) < (own_ps ((0 : Int32) + mv) ((0 : Int32) + (1 : Int32)) nv))))] [(.int (own_b ((0 : Int32) < (((1 : Int32) - mv) - nv)))), (.int (own_b ((own_pl ((0 : Int32) + mv) nv) < (own_ps ((0 : Int32) + mv) ((0 : Int32) + (1 : Int32)) nv))))])) _
          refine XS.icmpNo X217.here hx rfl (hb hby at_197) rfl (teq (own_fin_m (by decide) hm4 hn4 hm3.2.2 hn3.2.2)).2 ?_
          show Steps p.tables e below (T217.setTop (mkF m 200 #[.val (.int p0), .val (.int p1), .val (.int p2), .val (.int p3), .val (.int (1 : Int32)), .val (.int (own_b (¬ ((p0 &&& (2 : Int32)) = (0 : Int32))))), .val (.int (1 : Int32)), .val (.int mv), .val (.int nv), .val (.ref b189), .val (.int (own_b ((0 : Int32) < ((0 : Int32) + (1 : Int32))))), .val (.int (own_b ((own_pl ((0 : Int32) + mv) nv) < (own_ps ((0 : Int32) + mv) ((0 : Int32) + (1 : Int32)) nv))))] [])) _
          refine XS.iconst X217.here hx rfl (hb hby at_200) ?_
          show Steps p.tables e below (T217.setTop (mkF m 201 #[.val (.int p0), .val (.int p1), .val (.int p2), .val (.int p3), .val (.int (1 : Int32)), .val (.int (own_b (¬ ((p0 &&& (2 : Int32)) = (0 : Int32))))), .val (.int (1 : Int32)), .val (.int mv), .val (.int nv), .val (.ref b189), .val (.int (own_b ((0 : Int32) < ((0 : Int32) + (1 : Int32))))), .val (.int (own_b ((own_pl ((0 : Int32) + mv) nv) < (own_ps ((0 : Int32) + mv) ((0 : Int32) + (1 : Int32)) nv))))] [(.int (1 : Int32))])) _
          refine XS.goto X217.here hx rfl (pc0 := 201) (pc' := 205) rfl (hb hby at_201) (by decide) (by decide) ?_
          show Steps p.tables e below (T217.setTop (mkF m 205 #[.val (.int p0), .val (.int p1), .val (.int p2), .val (.int p3), .val (.int (1 : Int32)), .val (.int (own_b (¬ ((p0 &&& (2 : Int32)) = (0 : Int32))))), .val (.int (1 : Int32)), .val (.int mv), .val (.int nv), .val (.ref b189), .val (.int (own_b ((0 : Int32) < ((0 : Int32) + (1 : Int32))))), .val (.int (own_b ((own_pl ((0 : Int32) + mv) nv) < (own_ps ((0 : Int32) + mv) ((0 : Int32) + (1 : Int32)) nv))))] [(.int (1 : Int32))])) _
          exact retN X217 hx (t := .boolean) Bd.returns (by simp) (hb hby at_205) hrZ
        · show Q0 Z p0 p1 p2 p3 h0 n0 _ T217.heap _
          rw [e217]
          exact ⟨rfl, N217⟩
    ·  -- a = 2
      obtain ⟨_, _, ⟨T221, L221, k221, n221⟩, -, X221, ⟨Lc221, hQ221, l221, y221, z221⟩, st221⟩ := Jvm.LawKit.callS X0 hx (y := (⟨"java/lang/Math", "min", "(II)I"⟩ : MethodName)) hown (mvT hZ (ow hw 1 rfl)) (mvT hZ (ow hw 2 rfl)) (mvT hZ (ow hw 3 rfl)) (mvT hZ (ow hw 4 rfl)) (by decide) (backOf (W := 0) (rm1 l Z a0 hw [] ((p2 &&& (2147483647 : Int32)) % (3 : Int32)) (2 : Int32) h0 n0 Z0 ) hZ (ow hw 4 rfl) (ow hw 3 rfl) (by decide) (by decide)) (g := (mkF m 39 #[.val (.int p0), .val (.int p1), .val (.int p2), .val (.int p3), .val (.int (1 : Int32)), .val (.int (own_b (¬ ((p0 &&& (2 : Int32)) = (0 : Int32))))), .val (.int (2 : Int32)), .unset, .unset, .unset, .unset, .unset] [(.int (2 : Int32)), (.int ((p2 &&& (2147483647 : Int32)) % (3 : Int32)))])) rfl (by rw [hml]; rfl) (argsL := [(.int ((p2 &&& (2147483647 : Int32)) % (3 : Int32))), (.int (2 : Int32))]) (rest := []) (lenOf pd6 rfl) rfl (by show 2 * 0 + _ ≤ _; exact Nat.le_of_eq rfl) (hb hby at_39) (fun _ _ => ⟨rfl, e0, (by decide : 0 + 0 ≤ _), (by decide : 0 + 0 ≤ _)⟩)
      dsimp only [Pt.U, Pt.locs, Pt.cells, Pt.slots] at X221 l221 y221 z221 st221 hQ221
      subst l221 y221 z221
      obtain ⟨rfl, N221q, e221⟩ := hQ221
      have N221 := Fr.app N0 N221q
      have pre222 : ∀ tZ, Steps p.tables e below (T221.setTop (mkF m 44 #[.val (.int p0), .val (.int p1), .val (.int p2), .val (.int p3), .val (.int (1 : Int32)), .val (.int (own_b (¬ ((p0 &&& (2 : Int32)) = (0 : Int32))))), .val (.int (2 : Int32)), .val (.int (if (2 : Int32) < ((p2 &&& (2147483647 : Int32)) % (3 : Int32)) then (2 : Int32) else ((p2 &&& (2147483647 : Int32)) % (3 : Int32)))), .unset, .unset, .unset, .unset] [])) tZ → Steps p.tables e below (s₁.setTop (entryFrame m #[(.int p0), (.int p1), (.int p2), (.int p3)] maxLocals)) tZ := fun tZ kZ => pre150 tZ (by
        show Steps p.tables e below (s₁.setTop (mkF m 31 #[.val (.int p0), .val (.int p1), .val (.int p2), .val (.int p3), .val (.int (1 : Int32)), .val (.int (own_b (¬ ((p0 &&& (2 : Int32)) = (0 : Int32))))), .val (.int (2 : Int32)), .unset, .unset, .unset, .unset, .unset] [])) _
        refine XS.iloadN X0.here hx rfl (hb hby at_31) rfl  ?_
        show Steps p.tables e below (s₁.setTop (mkF m 32 #[.val (.int p0), .val (.int p1), .val (.int p2), .val (.int p3), .val (.int (1 : Int32)), .val (.int (own_b (¬ ((p0 &&& (2 : Int32)) = (0 : Int32))))), .val (.int (2 : Int32)), .unset, .unset, .unset, .unset, .unset] [(.int p2)])) _
        refine X0.ldcInt hx hown (mvT hZ (ow hw 0 rfl)) (g := (mkF m 32 #[.val (.int p0), .val (.int p1), .val (.int p2), .val (.int p3), .val (.int (1 : Int32)), .val (.int (own_b (¬ ((p0 &&& (2 : Int32)) = (0 : Int32))))), .val (.int (2 : Int32)), .unset, .unset, .unset, .unset, .unset] [(.int p2)])) rfl (hb hby at_32) _ ?_
        show Steps p.tables e below (s₁.setTop (mkF m 34 #[.val (.int p0), .val (.int p1), .val (.int p2), .val (.int p3), .val (.int (1 : Int32)), .val (.int (own_b (¬ ((p0 &&& (2 : Int32)) = (0 : Int32))))), .val (.int (2 : Int32)), .unset, .unset, .unset, .unset, .unset] [(.int (2147483647 : Int32)), (.int p2)])) _
        refine XS.iand X0.here hx rfl (hb hby at_34) rfl ?_
        show Steps p.tables e below (s₁.setTop (mkF m 35 #[.val (.int p0), .val (.int p1), .val (.int p2), .val (.int p3), .val (.int (1 : Int32)), .val (.int (own_b (¬ ((p0 &&& (2 : Int32)) = (0 : Int32))))), .val (.int (2 : Int32)), .unset, .unset, .unset, .unset, .unset] [(.int (p2 &&& (2147483647 : Int32)))])) _
        refine XS.iconst X0.here hx rfl (hb hby at_35) ?_
        show Steps p.tables e below (s₁.setTop (mkF m 36 #[.val (.int p0), .val (.int p1), .val (.int p2), .val (.int p3), .val (.int (1 : Int32)), .val (.int (own_b (¬ ((p0 &&& (2 : Int32)) = (0 : Int32))))), .val (.int (2 : Int32)), .unset, .unset, .unset, .unset, .unset] [(.int (3 : Int32)), (.int (p2 &&& (2147483647 : Int32)))])) _
        refine iremM X0 hx rfl (hb hby at_36) rfl (by decide) ?_
        show Steps p.tables e below (s₁.setTop (mkF m 37 #[.val (.int p0), .val (.int p1), .val (.int p2), .val (.int p3), .val (.int (1 : Int32)), .val (.int (own_b (¬ ((p0 &&& (2 : Int32)) = (0 : Int32))))), .val (.int (2 : Int32)), .unset, .unset, .unset, .unset, .unset] [(.int ((p2 &&& (2147483647 : Int32)) % (3 : Int32)))])) _
        refine XS.iload X0.here hx rfl (hb hby at_37) rfl  ?_
        show Steps p.tables e below (s₁.setTop (mkF m 39 #[.val (.int p0), .val (.int p1), .val (.int p2), .val (.int p3), .val (.int (1 : Int32)), .val (.int (own_b (¬ ((p0 &&& (2 : Int32)) = (0 : Int32))))), .val (.int (2 : Int32)), .unset, .unset, .unset, .unset, .unset] [(.int (2 : Int32)), (.int ((p2 &&& (2147483647 : Int32)) % (3 : Int32)))])) _
        refine st221 _ ?_
        show Steps p.tables e below (T221.setTop (mkF m 42 #[.val (.int p0), .val (.int p1), .val (.int p2), .val (.int p3), .val (.int (1 : Int32)), .val (.int (own_b (¬ ((p0 &&& (2 : Int32)) = (0 : Int32))))), .val (.int (2 : Int32)), .unset, .unset, .unset, .unset, .unset] [(.int (if (2 : Int32) < ((p2 &&& (2147483647 : Int32)) % (3 : Int32)) then (2 : Int32) else ((p2 &&& (2147483647 : Int32)) % (3 : Int32))))])) _
        refine XS.istore X221.here hx rfl (hb hby at_42) rfl (l' := #[.val (.int p0), .val (.int p1), .val (.int p2), .val (.int p3), .val (.int (1 : Int32)), .val (.int (own_b (¬ ((p0 &&& (2 : Int32)) = (0 : Int32))))), .val (.int (2 : Int32)), .val (.int (if (2 : Int32) < ((p2 &&& (2147483647 : Int32)) % (3 : Int32)) then (2 : Int32) else ((p2 &&& (2147483647 : Int32)) % (3 : Int32)))), .unset, .unset, .unset, .unset]) rfl ?_
        exact kZ)
      obtain ⟨mv, hmv⟩ : ∃ z, z = (if (2 : Int32) < ((p2 &&& (2147483647 : Int32)) % (3 : Int32)) then (2 : Int32) else ((p2 &&& (2147483647 : Int32)) % (3 : Int32))) := ⟨_, rfl⟩
      rw [← hmv] at pre222
      have hm3 := own_min hmv (own_rem p2) (by decide)
      have hm4 := own_c3 hm3.1 hm3.2.1
      obtain ⟨_, _, ⟨T223, L223, k223, n223⟩, -, X223, ⟨Lc223, hQ223, l223, y223, z223⟩, st223⟩ := Jvm.LawKit.callS X221 hx (y := (⟨"java/lang/Math", "min", "(II)I"⟩ : MethodName)) hown (mvT hZ (ow hw 1 rfl)) (mvT hZ (ow hw 2 rfl)) (mvT hZ (ow hw 3 rfl)) (mvT hZ (ow hw 4 rfl)) (by decide) (backOf (W := 0) (rm1 l Z a0 hw [] ((p3 &&& (2147483647 : Int32)) % (3 : Int32)) ((2 : Int32) - mv) h0 n0 Z0 ) hZ (ow hw 4 rfl) (ow hw 3 rfl) (by decide) (by decide)) (g := (mkF m 55 #[.val (.int p0), .val (.int p1), .val (.int p2), .val (.int p3), .val (.int (1 : Int32)), .val (.int (own_b (¬ ((p0 &&& (2 : Int32)) = (0 : Int32))))), .val (.int (2 : Int32)), .val (.int mv), .unset, .unset, .unset, .unset] [(.int ((2 : Int32) - mv)), (.int ((p3 &&& (2147483647 : Int32)) % (3 : Int32)))])) rfl (by rw [hml]; rfl) (argsL := [(.int ((p3 &&& (2147483647 : Int32)) % (3 : Int32))), (.int ((2 : Int32) - mv))]) (rest := []) (lenOf pd6 rfl) rfl (by show 2 * 0 + _ ≤ _; exact Nat.le_of_eq rfl) (hb hby at_55) (fun _ _ => ⟨rfl, e221, (by decide : 0 + 0 ≤ _), (by decide : 0 + 0 ≤ _)⟩)
      dsimp only [Pt.U, Pt.locs, Pt.cells, Pt.slots] at X223 l223 y223 z223 st223 hQ223
      subst l223 y223 z223
      obtain ⟨rfl, N223q, e223⟩ := hQ223
      have N223 := Fr.app N221 N223q
      have pre224 : ∀ tZ, Steps p.tables e below (T223.setTop (mkF m 60 #[.val (.int p0), .val (.int p1), .val (.int p2), .val (.int p3), .val (.int (1 : Int32)), .val (.int (own_b (¬ ((p0 &&& (2 : Int32)) = (0 : Int32))))), .val (.int (2 : Int32)), .val (.int mv), .val (.int (if ((2 : Int32) - mv) < ((p3 &&& (2147483647 : Int32)) % (3 : Int32)) then ((2 : Int32) - mv) else ((p3 &&& (2147483647 : Int32)) % (3 : Int32)))), .unset, .unset, .unset] [])) tZ → Steps p.tables e below (s₁.setTop (entryFrame m #[(.int p0), (.int p1), (.int p2), (.int p3)] maxLocals)) tZ := fun tZ kZ => pre222 tZ (by
        show Steps p.tables e below (T221.setTop (mkF m 44 #[.val (.int p0), .val (.int p1), .val (.int p2), .val (.int p3), .val (.int (1 : Int32)), .val (.int (own_b (¬ ((p0 &&& (2 : Int32)) = (0 : Int32))))), .val (.int (2 : Int32)), .val (.int mv), .unset, .unset, .unset, .unset] [])) _
        refine XS.iloadN X221.here hx rfl (hb hby at_44) rfl  ?_
        show Steps p.tables e below (T221.setTop (mkF m 45 #[.val (.int p0), .val (.int p1), .val (.int p2), .val (.int p3), .val (.int (1 : Int32)), .val (.int (own_b (¬ ((p0 &&& (2 : Int32)) = (0 : Int32))))), .val (.int (2 : Int32)), .val (.int mv), .unset, .unset, .unset, .unset] [(.int p3)])) _
        refine X221.ldcInt hx hown (mvT hZ (ow hw 0 rfl)) (g := (mkF m 45 #[.val (.int p0), .val (.int p1), .val (.int p2), .val (.int p3), .val (.int (1 : Int32)), .val (.int (own_b (¬ ((p0 &&& (2 : Int32)) = (0 : Int32))))), .val (.int (2 : Int32)), .val (.int mv), .unset, .unset, .unset, .unset] [(.int p3)])) rfl (hb hby at_45) _ ?_
        show Steps p.tables e below (T221.setTop (mkF m 47 #[.val (.int p0), .val (.int p1), .val (.int p2), .val (.int p3), .val (.int (1 : Int32)), .val (.int (own_b (¬ ((p0 &&& (2 : Int32)) = (0 : Int32))))), .val (.int (2 : Int32)), .val (.int mv), .unset, .unset, .unset, .unset] [(.int (2147483647 : Int32)), (.int p3)])) _
        refine XS.iand X221.here hx rfl (hb hby at_47) rfl ?_
        show Steps p.tables e below (T221.setTop (mkF m 48 #[.val (.int p0), .val (.int p1), .val (.int p2), .val (.int p3), .val (.int (1 : Int32)), .val (.int (own_b (¬ ((p0 &&& (2 : Int32)) = (0 : Int32))))), .val (.int (2 : Int32)), .val (.int mv), .unset, .unset, .unset, .unset] [(.int (p3 &&& (2147483647 : Int32)))])) _
        refine XS.iconst X221.here hx rfl (hb hby at_48) ?_
        show Steps p.tables e below (T221.setTop (mkF m 49 #[.val (.int p0), .val (.int p1), .val (.int p2), .val (.int p3), .val (.int (1 : Int32)), .val (.int (own_b (¬ ((p0 &&& (2 : Int32)) = (0 : Int32))))), .val (.int (2 : Int32)), .val (.int mv), .unset, .unset, .unset, .unset] [(.int (3 : Int32)), (.int (p3 &&& (2147483647 : Int32)))])) _
        refine iremM X221 hx rfl (hb hby at_49) rfl (by decide) ?_
        show Steps p.tables e below (T221.setTop (mkF m 50 #[.val (.int p0), .val (.int p1), .val (.int p2), .val (.int p3), .val (.int (1 : Int32)), .val (.int (own_b (¬ ((p0 &&& (2 : Int32)) = (0 : Int32))))), .val (.int (2 : Int32)), .val (.int mv), .unset, .unset, .unset, .unset] [(.int ((p3 &&& (2147483647 : Int32)) % (3 : Int32)))])) _
        refine XS.iload X221.here hx rfl (hb hby at_50) rfl  ?_
        show Steps p.tables e below (T221.setTop (mkF m 52 #[.val (.int p0), .val (.int p1), .val (.int p2), .val (.int p3), .val (.int (1 : Int32)), .val (.int (own_b (¬ ((p0 &&& (2 : Int32)) = (0 : Int32))))), .val (.int (2 : Int32)), .val (.int mv), .unset, .unset, .unset, .unset] [(.int (2 : Int32)), (.int ((p3 &&& (2147483647 : Int32)) % (3 : Int32)))])) _
        refine XS.iload X221.here hx rfl (hb hby at_52) rfl  ?_
        show Steps p.tables e below (T221.setTop (mkF m 54 #[.val (.int p0), .val (.int p1), .val (.int p2), .val (.int p3), .val (.int (1 : Int32)), .val (.int (own_b (¬ ((p0 &&& (2 : Int32)) = (0 : Int32))))), .val (.int (2 : Int32)), .val (.int mv), .unset, .unset, .unset, .unset] [(.int mv), (.int (2 : Int32)), (.int ((p3 &&& (2147483647 : Int32)) % (3 : Int32)))])) _
        refine XS.isub X221.here hx rfl (hb hby at_54) rfl ?_
        show Steps p.tables e below (T221.setTop (mkF m 55 #[.val (.int p0), .val (.int p1), .val (.int p2), .val (.int p3), .val (.int (1 : Int32)), .val (.int (own_b (¬ ((p0 &&& (2 : Int32)) = (0 : Int32))))), .val (.int (2 : Int32)), .val (.int mv), .unset, .unset, .unset, .unset] [(.int ((2 : Int32) - mv)), (.int ((p3 &&& (2147483647 : Int32)) % (3 : Int32)))])) _
        refine st223 _ ?_
        show Steps p.tables e below (T223.setTop (mkF m 58 #[.val (.int p0), .val (.int p1), .val (.int p2), .val (.int p3), .val (.int (1 : Int32)), .val (.int (own_b (¬ ((p0 &&& (2 : Int32)) = (0 : Int32))))), .val (.int (2 : Int32)), .val (.int mv), .unset, .unset, .unset, .unset] [(.int (if ((2 : Int32) - mv) < ((p3 &&& (2147483647 : Int32)) % (3 : Int32)) then ((2 : Int32) - mv) else ((p3 &&& (2147483647 : Int32)) % (3 : Int32))))])) _
        refine XS.istore X223.here hx rfl (hb hby at_58) rfl (l' := #[.val (.int p0), .val (.int p1), .val (.int p2), .val (.int p3), .val (.int (1 : Int32)), .val (.int (own_b (¬ ((p0 &&& (2 : Int32)) = (0 : Int32))))), .val (.int (2 : Int32)), .val (.int mv), .val (.int (if ((2 : Int32) - mv) < ((p3 &&& (2147483647 : Int32)) % (3 : Int32)) then ((2 : Int32) - mv) else ((p3 &&& (2147483647 : Int32)) % (3 : Int32)))), .unset, .unset, .unset]) rfl ?_
        exact kZ)
      obtain ⟨nv, hnv⟩ : ∃ z, z = (if ((2 : Int32) - mv) < ((p3 &&& (2147483647 : Int32)) % (3 : Int32)) then ((2 : Int32) - mv) else ((p3 &&& (2147483647 : Int32)) % (3 : Int32))) := ⟨_, rfl⟩
      rw [← hnv] at pre224
      have hn3 := own_min hnv (own_rem p3) (own_nn hm4 hm3.2.2 (by decide))
      have hn4 := own_c3 hn3.1 hn3.2.1
      obtain ⟨T225, h225, X225, e225, E225, A225, D225, -, st225⟩ := newO X223 hx hZ hown (ow hw 5 rfl) (ow hw 6 rfl) (ow hw 7 rfl) e223 (g := (mkF m 60 #[.val (.int p0), .val (.int p1), .val (.int p2), .val (.int p3), .val (.int (1 : Int32)), .val (.int (own_b (¬ ((p0 &&& (2 : Int32)) = (0 : Int32))))), .val (.int (2 : Int32)), .val (.int mv), .val (.int nv), .unset, .unset, .unset] [])) rfl (hb hby at_60) (by decide) (by decide)
      obtain ⟨b225, g225⟩ : ∃ z, z = h0.size := ⟨_, rfl⟩
      rw [← g225] at A225 D225 st225
      have gn_b225 : n0 ≤ b225 := Nat.le_trans Z0 (Nat.le_of_eq g225.symm)
      have Z226 : n0 ≤ h225.size := Nat.le_trans Z0 E225.1
      have F__tasks_b225 : Fld Z h225 b225 oR "_tasks" "[Lcom/example/portunus/portunus/policy/WaitingTask;" .null := D225 (Or.inl (ow hw 20 rfl)) (ty := (.array (.object oW))) (by decide)
      have F__mayBeLostAfterUs_b225 : Fld Z h225 b225 oR "_mayBeLostAfterUs" "[D" .null := D225 (Or.inl (ow hw 22 rfl)) (ty := (.array .double)) (by decide)
      have F__size_b225 : Fld Z h225 b225 oR "_size" "I" (.int (0 : Int32)) := D225 (Or.inl (ow hw 29 rfl)) (ty := .int) (by decide)
      have F__first_b225 : Fld Z h225 b225 oR "_first" "I" (.int (0 : Int32)) := D225 (Or.inl (ow hw 35 rfl)) (ty := .int) (by decide)
      have F__lostSlots_b225 : Fld Z h225 b225 oR "_lostSlots" "I" (.int (0 : Int32)) := D225 (Or.inl (ow hw 44 rfl)) (ty := .int) (by decide)
      obtain ⟨_, _, ⟨T227, L227, k227, n227⟩, -, X227, ⟨Lc227, hQ227, l227, y227, z227⟩, st227⟩ := X225.specialBack hx (y := (⟨oR, "<init>", "(Z)V"⟩ : MethodName)) rfl hown (mvT hZ (ow hw 8 rfl)) (mvT hZ (ow hw 9 rfl)) (mvT hZ (ow hw 10 rfl)) (by decide) (backOf (W := 1) (rm2d l Z a0 hw [] b225 .null .null h225 n0 Z226 A225 F__tasks_b225 F__mayBeLostAfterUs_b225 F__size_b225 F__lostSlots_b225 F__first_b225 gn_b225) hZ (ow hw 10 rfl) (ow hw 7 rfl) (by decide) (by decide)) (g := (mkF m 66 #[.val (.int p0), .val (.int p1), .val (.int p2), .val (.int p3), .val (.int (1 : Int32)), .val (.int (own_b (¬ ((p0 &&& (2 : Int32)) = (0 : Int32))))), .val (.int (2 : Int32)), .val (.int mv), .val (.int nv), .unset, .unset, .unset] [(.int (1 : Int32)), (.ref b225), (.ref b225)])) rfl (by rw [hml]; rfl) (Steps.refl _) (a := b225) (argsL := [(.int (1 : Int32))]) (rest := [(.ref b225)]) (lenOf pd7 rfl) rfl (by show 2 * 0 + _ ≤ _; exact Nat.le_of_eq rfl) (hb hby at_66) (fun _ _ => ⟨rfl, e225, (by decide : 1 + 2 ≤ _), (by decide : 5 + 16 ≤ _)⟩)
      dsimp only [Pt.U, Pt.locs, Pt.cells, Pt.slots] at X227 l227 y227 z227 st227 hQ227
      subst l227 y227 z227
      obtain ⟨tk_228, kt_229, dd_230, rfl, N227q, K227, u227_0, u227_1, u227_2, u227_3, u227_4, f227_0, f227_1, f227_2, f227_3, f227_4, f227_5, f227_6, f227_7⟩ := hQ227
      have N227 := Fr.app N223 N227q
      have Z231 : n0 ≤ T227.heap.size := Nat.le_trans Z226 K227.1
      have ne232 : b225 ≠ tk_228 := Nat.ne_of_lt (Nat.lt_of_lt_of_le A225.lt u227_1)
      have ne233 : b225 ≠ dd_230 := Nat.ne_of_lt (Nat.lt_of_lt_of_le A225.lt u227_3)
      obtain ⟨cq234, kq234, q234a, q234b, q234c⟩ := isOf hZ rfl f227_0
      obtain ⟨_, _, ⟨T234, L234, k234, n234⟩, -, X234, ⟨Lc234, hQ234, l234, y234, z234⟩, st234⟩ := X227.virtualBack hx (y := (⟨oR, "addLast", "(Lcom/example/portunus/portunus/policy/WaitingTask;D)V"⟩ : MethodName)) (z := (⟨oR, "addLast", "(Lcom/example/portunus/portunus/policy/WaitingTask;D)V"⟩ : MethodName)) hown (mvT hZ (ow hw 23 rfl)) (mvT hZ (ow hw 24 rfl)) (notFace_of_selects (args := #[]) (mvT hZ (ow hw 26 rfl))) (mvT hZ (ow hw 26 rfl)) (mvT hZ (ow hw 25 rfl)) (by decide) (backOf (W := 0) (rm5d l Z a0 hw [] b225 Jvm.FP.dconst1 tk_228 (0 : Int32) (0 : Int32) (0 : Int32) kt_229 dd_230 T227.heap n0 Z231 f227_0 f227_1 f227_2 f227_3 f227_4 f227_5 f227_6 gn_b225 u227_0 ne232 f227_7 u227_2 ne233 u227_4 (by first | assumption | decide | omega)) hZ (ow hw 27 rfl) (ow hw 7 rfl) (by decide) (by decide)) q234a q234c (g := (mkF m 81 #[.val (.int p0), .val (.int p1), .val (.int p2), .val (.int p3), .val (.int (1 : Int32)), .val (.int (own_b (¬ ((p0 &&& (2 : Int32)) = (0 : Int32))))), .val (.int (2 : Int32)), .val (.int mv), .val (.int nv), .val (.ref b225), .unset, .unset] [(.double Jvm.FP.dconst1), .null, (.ref b225)])) rfl (by rw [hml]; rfl) (Steps.refl _) (argsL := [.null, (.double Jvm.FP.dconst1)]) (rest := []) (lenOf pd10 rfl) rfl (by show 2 * 0 + _ ≤ _; exact Nat.le_of_eq rfl) (hb hby at_81) (fun _ _ => ⟨rfl, rfl, (by decide : 3 + 0 ≤ _), (by decide : 21 + 0 ≤ _)⟩)
      dsimp only [Pt.U, Pt.locs, Pt.cells, Pt.slots] at X234 l234 y234 z234 st234 hQ234
      subst l234 y234 z234
      obtain ⟨rfl, N234q, K234, f234_0, f234_1, f234_2, f234_3, f234_4, f234_5, f234_6, f234_7⟩ := hQ234
      have N234 := Fr.app N227 N234q
      have Z235 : n0 ≤ T234.heap.size := Nat.le_trans Z231 K234.1
      obtain ⟨cq236, kq236, q236a, q236b, q236c⟩ := isOf hZ rfl f234_0
      obtain ⟨_, _, ⟨T236, L236, k236, n236⟩, -, X236, ⟨Lc236, hQ236, l236, y236, z236⟩, st236⟩ := X234.virtualBack hx (y := (⟨oR, "addLast", "(Lcom/example/portunus/portunus/policy/WaitingTask;D)V"⟩ : MethodName)) (z := (⟨oR, "addLast", "(Lcom/example/portunus/portunus/policy/WaitingTask;D)V"⟩ : MethodName)) hown (mvT hZ (ow hw 23 rfl)) (mvT hZ (ow hw 24 rfl)) (notFace_of_selects (args := #[]) (mvT hZ (ow hw 26 rfl))) (mvT hZ (ow hw 26 rfl)) (mvT hZ (ow hw 25 rfl)) (by decide) (backOf (W := 0) (rm5d l Z a0 hw [] b225 (4611686018427387904 : UInt64) tk_228 ((0 : Int32) + (1 : Int32)) (0 : Int32) (0 : Int32) kt_229 dd_230 T234.heap n0 Z235 f234_0 f234_1 f234_2 f234_3 f234_4 f234_5 f234_6 gn_b225 u227_0 ne232 f234_7 u227_2 ne233 u227_4 (by first | assumption | decide | omega)) hZ (ow hw 27 rfl) (ow hw 7 rfl) (by decide) (by decide)) q236a q236c (g := (mkF m 96 #[.val (.int p0), .val (.int p1), .val (.int p2), .val (.int p3), .val (.int (1 : Int32)), .val (.int (own_b (¬ ((p0 &&& (2 : Int32)) = (0 : Int32))))), .val (.int (2 : Int32)), .val (.int mv), .val (.int nv), .val (.ref b225), .unset, .unset] [(.double (4611686018427387904 : UInt64)), .null, (.ref b225)])) rfl (by rw [hml]; rfl) (Steps.refl _) (argsL := [.null, (.double (4611686018427387904 : UInt64))]) (rest := []) (lenOf pd10 rfl) rfl (by show 2 * 0 + _ ≤ _; exact Nat.le_of_eq rfl) (hb hby at_96) (fun _ _ => ⟨rfl, rfl, (by decide : 3 + 0 ≤ _), (by decide : 21 + 0 ≤ _)⟩)
      dsimp only [Pt.U, Pt.locs, Pt.cells, Pt.slots] at X236 l236 y236 z236 st236 hQ236
      subst l236 y236 z236
      obtain ⟨rfl, N236q, K236, f236_0, f236_1, f236_2, f236_3, f236_4, f236_5, f236_6, f236_7⟩ := hQ236
      have N236 := Fr.app N234 N236q
      have Z237 : n0 ≤ T236.heap.size := Nat.le_trans Z235 K236.1
      obtain ⟨cq238, kq238, q238a, q238b, q238c⟩ := isOf hZ rfl f236_0
      obtain ⟨_, _, ⟨T238, L238, k238, n238⟩, -, X238, ⟨Lc238, hQ238, l238, y238, z238⟩, st238⟩ := X236.virtualBack hx (y := (⟨oR, "hasOther", "()Z"⟩ : MethodName)) (z := (⟨oR, "hasOther", "()Z"⟩ : MethodName)) hown (mvT hZ (ow hw 38 rfl)) (mvT hZ (ow hw 39 rfl)) (notFace_of_selects (args := #[]) (mvT hZ (ow hw 41 rfl))) (mvT hZ (ow hw 41 rfl)) (mvT hZ (ow hw 40 rfl)) (by decide) (backOf (W := 0) (rm7 l Z a0 hw [] b225 (((0 : Int32) + (1 : Int32)) + (1 : Int32)) (0 : Int32) T236.heap n0 Z237 f236_3 f236_4) hZ (ow hw 42 rfl) (ow hw 7 rfl) (by decide) (by decide)) q238a q238c (g := (mkF m 116 #[.val (.int p0), .val (.int p1), .val (.int p2), .val (.int p3), .val (.int (1 : Int32)), .val (.int (own_b (¬ ((p0 &&& (2 : Int32)) = (0 : Int32))))), .val (.int (2 : Int32)), .val (.int mv), .val (.int nv), .val (.ref b225), .unset, .unset] [(.ref b225)])) rfl (by rw [hml]; rfl) (Steps.refl _) (argsL := []) (rest := []) (lenOf pd8 rfl) rfl (by show 2 * 0 + _ ≤ _; exact Nat.le_of_eq rfl) (hb hby at_116) (fun _ _ => ⟨rfl, rfl, (by decide : 3 + 0 ≤ _), (by decide : 21 + 0 ≤ _)⟩)
      dsimp only [Pt.U, Pt.locs, Pt.cells, Pt.slots] at X238 l238 y238 z238 st238 hQ238
      subst l238 y238 z238
      obtain ⟨rfl, N238q, e238⟩ := hQ238
      have N238 := Fr.app N236 N238q
      have pre239 : ∀ tZ, Steps p.tables e below (T238.setTop (mkF m 123 #[.val (.int p0), .val (.int p1), .val (.int p2), .val (.int p3), .val (.int (1 : Int32)), .val (.int (own_b (¬ ((p0 &&& (2 : Int32)) = (0 : Int32))))), .val (.int (2 : Int32)), .val (.int mv), .val (.int nv), .val (.ref b225), .val (.int (own_b ((0 : Int32) < (((0 : Int32) + (1 : Int32)) + (1 : Int32))))), .unset] [(.int (own_b (¬ ((p0 &&& (2 : Int32)) = (0 : Int32)))))])) tZ → Steps p.tables e below (s₁.setTop (entryFrame m #[(.int p0), (.int p1), (.int p2), (.int p3)] maxLocals)) tZ := fun tZ kZ => pre224 tZ (by
        show Steps p.tables e below (T223.setTop (mkF m 60 #[.val (.int p0), .val (.int p1), .val (.int p2), .val (.int p3), .val (.int (1 : Int32)), .val (.int (own_b (¬ ((p0 &&& (2 : Int32)) = (0 : Int32))))), .val (.int (2 : Int32)), .val (.int mv), .val (.int nv), .unset, .unset, .unset] [])) _
        refine st225 _ ?_
        show Steps p.tables e below (T225.setTop (mkF m 63 #[.val (.int p0), .val (.int p1), .val (.int p2), .val (.int p3), .val (.int (1 : Int32)), .val (.int (own_b (¬ ((p0 &&& (2 : Int32)) = (0 : Int32))))), .val (.int (2 : Int32)), .val (.int mv), .val (.int nv), .unset, .unset, .unset] [(.ref b225)])) _
        refine XS.dup X225.here hx rfl (hb hby at_63) rfl rfl ?_
        show Steps p.tables e below (T225.setTop (mkF m 64 #[.val (.int p0), .val (.int p1), .val (.int p2), .val (.int p3), .val (.int (1 : Int32)), .val (.int (own_b (¬ ((p0 &&& (2 : Int32)) = (0 : Int32))))), .val (.int (2 : Int32)), .val (.int mv), .val (.int nv), .unset, .unset, .unset] [(.ref b225), (.ref b225)])) _
        refine XS.iload X225.here hx rfl (hb hby at_64) rfl  ?_
        show Steps p.tables e below (T225.setTop (mkF m 66 #[.val (.int p0), .val (.int p1), .val (.int p2), .val (.int p3), .val (.int (1 : Int32)), .val (.int (own_b (¬ ((p0 &&& (2 : Int32)) = (0 : Int32))))), .val (.int (2 : Int32)), .val (.int mv), .val (.int nv), .unset, .unset, .unset] [(.int (1 : Int32)), (.ref b225), (.ref b225)])) _
        refine st227.trans ?_
        show Steps p.tables e below (T227.setTop (mkF m 69 #[.val (.int p0), .val (.int p1), .val (.int p2), .val (.int p3), .val (.int (1 : Int32)), .val (.int (own_b (¬ ((p0 &&& (2 : Int32)) = (0 : Int32))))), .val (.int (2 : Int32)), .val (.int mv), .val (.int nv), .unset, .unset, .unset] [(.ref b225)])) _
        refine XS.astore X227.here hx rfl (hb hby at_69) rfl rfl (l' := #[.val (.int p0), .val (.int p1), .val (.int p2), .val (.int p3), .val (.int (1 : Int32)), .val (.int (own_b (¬ ((p0 &&& (2 : Int32)) = (0 : Int32))))), .val (.int (2 : Int32)), .val (.int mv), .val (.int nv), .val (.ref b225), .unset, .unset]) rfl ?_
        show Steps p.tables e below (T227.setTop (mkF m 71 #[.val (.int p0), .val (.int p1), .val (.int p2), .val (.int p3), .val (.int (1 : Int32)), .val (.int (own_b (¬ ((p0 &&& (2 : Int32)) = (0 : Int32))))), .val (.int (2 : Int32)), .val (.int mv), .val (.int nv), .val (.ref b225), .unset, .unset] [])) _
        refine XS.iload X227.here hx rfl (hb hby at_71) rfl  ?_
        show Steps p.tables e below (T227.setTop (mkF m 73 #[.val (.int p0), .val (.int p1), .val (.int p2), .val (.int p3), .val (.int (1 : Int32)), .val (.int (own_b (¬ ((p0 &&& (2 : Int32)) = (0 : Int32))))), .val (.int (2 : Int32)), .val (.int mv), .val (.int nv), .val (.ref b225), .unset, .unset] [(.int (2 : Int32))])) _
        refine XS.iconst X227.here hx rfl (hb hby at_73) ?_
        show Steps p.tables e below (T227.setTop (mkF m 74 #[.val (.int p0), .val (.int p1), .val (.int p2), .val (.int p3), .val (.int (1 : Int32)), .val (.int (own_b (¬ ((p0 &&& (2 : Int32)) = (0 : Int32))))), .val (.int (2 : Int32)), .val (.int mv), .val (.int nv), .val (.ref b225), .unset, .unset] [(.int (1 : Int32)), (.int (2 : Int32))])) _
        refine XS.icmpNo X227.here hx rfl (hb hby at_74) rfl (flt (by decide)).1 ?_
        show Steps p.tables e below (T227.setTop (mkF m 77 #[.val (.int p0), .val (.int p1), .val (.int p2), .val (.int p3), .val (.int (1 : Int32)), .val (.int (own_b (¬ ((p0 &&& (2 : Int32)) = (0 : Int32))))), .val (.int (2 : Int32)), .val (.int mv), .val (.int nv), .val (.ref b225), .unset, .unset] [])) _
        refine XS.aload X227.here hx rfl (hb hby at_77) rfl rfl ?_
        show Steps p.tables e below (T227.setTop (mkF m 79 #[.val (.int p0), .val (.int p1), .val (.int p2), .val (.int p3), .val (.int (1 : Int32)), .val (.int (own_b (¬ ((p0 &&& (2 : Int32)) = (0 : Int32))))), .val (.int (2 : Int32)), .val (.int mv), .val (.int nv), .val (.ref b225), .unset, .unset] [(.ref b225)])) _
        refine XS.aconstNull X227.here hx rfl (hb hby at_79) ?_
        show Steps p.tables e below (T227.setTop (mkF m 80 #[.val (.int p0), .val (.int p1), .val (.int p2), .val (.int p3), .val (.int (1 : Int32)), .val (.int (own_b (¬ ((p0 &&& (2 : Int32)) = (0 : Int32))))), .val (.int (2 : Int32)), .val (.int mv), .val (.int nv), .val (.ref b225), .unset, .unset] [.null, (.ref b225)])) _
        refine XS.dconst1 X227.here hx rfl (v := Jvm.FP.dconst1) (hb hby at_80) rfl ?_
        show Steps p.tables e below (T227.setTop (mkF m 81 #[.val (.int p0), .val (.int p1), .val (.int p2), .val (.int p3), .val (.int (1 : Int32)), .val (.int (own_b (¬ ((p0 &&& (2 : Int32)) = (0 : Int32))))), .val (.int (2 : Int32)), .val (.int mv), .val (.int nv), .val (.ref b225), .unset, .unset] [(.double Jvm.FP.dconst1), .null, (.ref b225)])) _
        refine st234.trans ?_
        show Steps p.tables e below (T234.setTop (mkF m 84 #[.val (.int p0), .val (.int p1), .val (.int p2), .val (.int p3), .val (.int (1 : Int32)), .val (.int (own_b (¬ ((p0 &&& (2 : Int32)) = (0 : Int32))))), .val (.int (2 : Int32)), .val (.int mv), .val (.int nv), .val (.ref b225), .unset, .unset] [])) _
        refine XS.iload X234.here hx rfl (hb hby at_84) rfl  ?_
        show Steps p.tables e below (T234.setTop (mkF m 86 #[.val (.int p0), .val (.int p1), .val (.int p2), .val (.int p3), .val (.int (1 : Int32)), .val (.int (own_b (¬ ((p0 &&& (2 : Int32)) = (0 : Int32))))), .val (.int (2 : Int32)), .val (.int mv), .val (.int nv), .val (.ref b225), .unset, .unset] [(.int (2 : Int32))])) _
        refine XS.iconst X234.here hx rfl (hb hby at_86) ?_
        show Steps p.tables e below (T234.setTop (mkF m 87 #[.val (.int p0), .val (.int p1), .val (.int p2), .val (.int p3), .val (.int (1 : Int32)), .val (.int (own_b (¬ ((p0 &&& (2 : Int32)) = (0 : Int32))))), .val (.int (2 : Int32)), .val (.int mv), .val (.int nv), .val (.ref b225), .unset, .unset] [(.int (2 : Int32)), (.int (2 : Int32))])) _
        refine XS.icmpNo X234.here hx rfl (hb hby at_87) rfl (flt (by decide)).1 ?_
        show Steps p.tables e below (T234.setTop (mkF m 90 #[.val (.int p0), .val (.int p1), .val (.int p2), .val (.int p3), .val (.int (1 : Int32)), .val (.int (own_b (¬ ((p0 &&& (2 : Int32)) = (0 : Int32))))), .val (.int (2 : Int32)), .val (.int mv), .val (.int nv), .val (.ref b225), .unset, .unset] [])) _
        refine XS.aload X234.here hx rfl (hb hby at_90) rfl rfl ?_
        show Steps p.tables e below (T234.setTop (mkF m 92 #[.val (.int p0), .val (.int p1), .val (.int p2), .val (.int p3), .val (.int (1 : Int32)), .val (.int (own_b (¬ ((p0 &&& (2 : Int32)) = (0 : Int32))))), .val (.int (2 : Int32)), .val (.int mv), .val (.int nv), .val (.ref b225), .unset, .unset] [(.ref b225)])) _
        refine XS.aconstNull X234.here hx rfl (hb hby at_92) ?_
        show Steps p.tables e below (T234.setTop (mkF m 93 #[.val (.int p0), .val (.int p1), .val (.int p2), .val (.int p3), .val (.int (1 : Int32)), .val (.int (own_b (¬ ((p0 &&& (2 : Int32)) = (0 : Int32))))), .val (.int (2 : Int32)), .val (.int mv), .val (.int nv), .val (.ref b225), .unset, .unset] [.null, (.ref b225)])) _
        refine X234.ldc2DoubleC hx hown (mvT hZ (ow hw 36 rfl)) (g := (mkF m 93 #[.val (.int p0), .val (.int p1), .val (.int p2), .val (.int p3), .val (.int (1 : Int32)), .val (.int (own_b (¬ ((p0 &&& (2 : Int32)) = (0 : Int32))))), .val (.int (2 : Int32)), .val (.int mv), .val (.int nv), .val (.ref b225), .unset, .unset] [.null, (.ref b225)])) rfl (hb hby at_93) _ ?_
        show Steps p.tables e below (T234.setTop (mkF m 96 #[.val (.int p0), .val (.int p1), .val (.int p2), .val (.int p3), .val (.int (1 : Int32)), .val (.int (own_b (¬ ((p0 &&& (2 : Int32)) = (0 : Int32))))), .val (.int (2 : Int32)), .val (.int mv), .val (.int nv), .val (.ref b225), .unset, .unset] [(.double (4611686018427387904 : UInt64)), .null, (.ref b225)])) _
        refine st236.trans ?_
        show Steps p.tables e below (T236.setTop (mkF m 99 #[.val (.int p0), .val (.int p1), .val (.int p2), .val (.int p3), .val (.int (1 : Int32)), .val (.int (own_b (¬ ((p0 &&& (2 : Int32)) = (0 : Int32))))), .val (.int (2 : Int32)), .val (.int mv), .val (.int nv), .val (.ref b225), .unset, .unset] [])) _
        refine XS.iload X236.here hx rfl (hb hby at_99) rfl  ?_
        show Steps p.tables e below (T236.setTop (mkF m 101 #[.val (.int p0), .val (.int p1), .val (.int p2), .val (.int p3), .val (.int (1 : Int32)), .val (.int (own_b (¬ ((p0 &&& (2 : Int32)) = (0 : Int32))))), .val (.int (2 : Int32)), .val (.int mv), .val (.int nv), .val (.ref b225), .unset, .unset] [(.int (2 : Int32))])) _
        refine XS.iconst X236.here hx rfl (hb hby at_101) ?_
        show Steps p.tables e below (T236.setTop (mkF m 102 #[.val (.int p0), .val (.int p1), .val (.int p2), .val (.int p3), .val (.int (1 : Int32)), .val (.int (own_b (¬ ((p0 &&& (2 : Int32)) = (0 : Int32))))), .val (.int (2 : Int32)), .val (.int mv), .val (.int nv), .val (.ref b225), .unset, .unset] [(.int (3 : Int32)), (.int (2 : Int32))])) _
        refine XS.icmpYes X236.here hx rfl (pc0 := 102) (pc' := 114) rfl (hb hby at_102) rfl (tlt (by decide)).1 (by decide) (by decide) ?_
        show Steps p.tables e below (T236.setTop (mkF m 114 #[.val (.int p0), .val (.int p1), .val (.int p2), .val (.int p3), .val (.int (1 : Int32)), .val (.int (own_b (¬ ((p0 &&& (2 : Int32)) = (0 : Int32))))), .val (.int (2 : Int32)), .val (.int mv), .val (.int nv), .val (.ref b225), .unset, .unset] [])) _
        refine XS.aload X236.here hx rfl (hb hby at_114) rfl rfl ?_
        show Steps p.tables e below (T236.setTop (mkF m 116 #[.val (.int p0), .val (.int p1), .val (.int p2), .val (.int p3), .val (.int (1 : Int32)), .val (.int (own_b (¬ ((p0 &&& (2 : Int32)) = (0 : Int32))))), .val (.int (2 : Int32)), .val (.int mv), .val (.int nv), .val (.ref b225), .unset, .unset] [(.ref b225)])) _
        refine st238.trans ?_
        show Steps p.tables e below (T238.setTop (mkF m 119 #[.val (.int p0), .val (.int p1), .val (.int p2), .val (.int p3), .val (.int (1 : Int32)), .val (.int (own_b (¬ ((p0 &&& (2 : Int32)) = (0 : Int32))))), .val (.int (2 : Int32)), .val (.int mv), .val (.int nv), .val (.ref b225), .unset, .unset] [(.int (own_b ((0 : Int32) < (((0 : Int32) + (1 : Int32)) + (1 : Int32)))))])) _
        refine XS.istore X238.here hx rfl (hb hby at_119) rfl (l' := #[.val (.int p0), .val (.int p1), .val (.int p2), .val (.int p3), .val (.int (1 : Int32)), .val (.int (own_b (¬ ((p0 &&& (2 : Int32)) = (0 : Int32))))), .val (.int (2 : Int32)), .val (.int mv), .val (.int nv), .val (.ref b225), .val (.int (own_b ((0 : Int32) < (((0 : Int32) + (1 : Int32)) + (1 : Int32))))), .unset]) rfl ?_
        show Steps p.tables e below (T238.setTop (mkF m 121 #[.val (.int p0), .val (.int p1), .val (.int p2), .val (.int p3), .val (.int (1 : Int32)), .val (.int (own_b (¬ ((p0 &&& (2 : Int32)) = (0 : Int32))))), .val (.int (2 : Int32)), .val (.int mv), .val (.int nv), .val (.ref b225), .val (.int (own_b ((0 : Int32) < (((0 : Int32) + (1 : Int32)) + (1 : Int32))))), .unset] [])) _
        refine XS.iload X238.here hx rfl (hb hby at_121) rfl  ?_
        exact kZ)
      by_cases hc240 : (¬ ((p0 &&& (2 : Int32)) = (0 : Int32)))
      ·  -- yes
        obtain ⟨_, _, ⟨T241, L241, k241, n241⟩, -, X241, ⟨Lc241, hQ241, l241, y241, z241⟩, st241⟩ := Jvm.LawKit.callS X238 hx (y := (⟨oL, "doPolls", "(Lcom/example/portunus/portunus/policy/Run;I)V"⟩ : MethodName)) hown (mvT hZ (ow hw 54 rfl)) (mvT hZ (ow hw 55 rfl)) (mvT hZ (ow hw 47 rfl)) (mvT hZ (ow hw 56 rfl)) (by decide) (backOf (W := 0) (rm10d l Z a0 hw [] b225 nv tk_228 (((0 : Int32) + (1 : Int32)) + (1 : Int32)) (0 : Int32) (0 : Int32) kt_229 dd_230 T236.heap n0 Z237 f236_0 f236_1 f236_2 f236_3 f236_4 f236_5 f236_6 gn_b225 u227_0 ne232 f236_7 u227_2 ne233 u227_4 hn4 (by decide)) hZ (ow hw 56 rfl) (ow hw 47 rfl) (by decide) (by decide)) (g := (mkF m 130 #[.val (.int p0), .val (.int p1), .val (.int p2), .val (.int p3), .val (.int (1 : Int32)), .val (.int (own_b (¬ ((p0 &&& (2 : Int32)) = (0 : Int32))))), .val (.int (2 : Int32)), .val (.int mv), .val (.int nv), .val (.ref b225), .val (.int (own_b ((0 : Int32) < (((0 : Int32) + (1 : Int32)) + (1 : Int32))))), .unset] [(.int nv), (.ref b225)])) rfl (by rw [hml]; rfl) (argsL := [(.ref b225), (.int nv)]) (rest := []) (lenOf pd9 rfl) rfl (by show 2 * 0 + _ ≤ _; exact Nat.le_of_eq rfl) (hb hby at_130) (fun _ _ => ⟨rfl, e238, (by decide : 3 + 0 ≤ _), (by decide : 21 + 0 ≤ _)⟩)
        dsimp only [Pt.U, Pt.locs, Pt.cells, Pt.slots] at X241 l241 y241 z241 st241 hQ241
        subst l241 y241 z241
        obtain ⟨fn_242, rfl, N241q, K241, f241_0, f241_1, f241_2, f241_3, f241_4, f241_5, f241_6, f241_7⟩ := hQ241
        have N241 := Fr.app N238 N241q
        have Z243 : n0 ≤ T241.heap.size := Nat.le_trans Z237 K241.1
        obtain ⟨_, _, ⟨T244, L244, k244, n244⟩, -, X244, ⟨Lc244, hQ244, l244, y244, z244⟩, st244⟩ := Jvm.LawKit.callS X241 hx (y := (⟨oL, "doMarks", "(Lcom/example/portunus/portunus/policy/Run;I)V"⟩ : MethodName)) hown (mvT hZ (ow hw 45 rfl)) (mvT hZ (ow hw 46 rfl)) (mvT hZ (ow hw 47 rfl)) (mvT hZ (ow hw 48 rfl)) (by decide) (backOf (W := 0) (rm8d l Z a0 hw [] b225 mv tk_228 (own_ps (0 : Int32) (((0 : Int32) + (1 : Int32)) + (1 : Int32)) nv) (own_pl (0 : Int32) nv) fn_242 kt_229 dd_230 T241.heap n0 Z243 f241_0 f241_1 f241_2 f241_3 f241_4 f241_5 f241_6 gn_b225 u227_0 ne232 f241_7 u227_2 ne233 u227_4 hm4) hZ (ow hw 48 rfl) (ow hw 47 rfl) (by decide) (by decide)) (g := (mkF m 137 #[.val (.int p0), .val (.int p1), .val (.int p2), .val (.int p3), .val (.int (1 : Int32)), .val (.int (own_b (¬ ((p0 &&& (2 : Int32)) = (0 : Int32))))), .val (.int (2 : Int32)), .val (.int mv), .val (.int nv), .val (.ref b225), .val (.int (own_b ((0 : Int32) < (((0 : Int32) + (1 : Int32)) + (1 : Int32))))), .unset] [(.int mv), (.ref b225)])) rfl (by rw [hml]; rfl) (argsL := [(.ref b225), (.int mv)]) (rest := []) (lenOf pd9 rfl) rfl (by show 2 * 0 + _ ≤ _; exact Nat.le_of_eq rfl) (hb hby at_137) (fun _ _ => ⟨rfl, rfl, (by decide : 3 + 0 ≤ _), (by decide : 21 + 0 ≤ _)⟩)
        dsimp only [Pt.U, Pt.locs, Pt.cells, Pt.slots] at X244 l244 y244 z244 st244 hQ244
        subst l244 y244 z244
        obtain ⟨rfl, N244q, K244, f244_0, f244_1, f244_2, f244_3, f244_4, f244_5, f244_6, f244_7⟩ := hQ244
        have N244 := Fr.app N241 N244q
        have Z245 : n0 ≤ T244.heap.size := Nat.le_trans Z243 K244.1
        obtain ⟨cq246, kq246, q246a, q246b, q246c⟩ := isOf hZ rfl f244_0
        obtain ⟨_, _, ⟨T246, L246, k246, n246⟩, -, X246, ⟨Lc246, hQ246, l246, y246, z246⟩, st246⟩ := X244.virtualBack hx (y := (⟨oR, "hasOther", "()Z"⟩ : MethodName)) (z := (⟨oR, "hasOther", "()Z"⟩ : MethodName)) hown (mvT hZ (ow hw 38 rfl)) (mvT hZ (ow hw 39 rfl)) (notFace_of_selects (args := #[]) (mvT hZ (ow hw 41 rfl))) (mvT hZ (ow hw 41 rfl)) (mvT hZ (ow hw 40 rfl)) (by decide) (backOf (W := 0) (rm7 l Z a0 hw [] b225 (own_ps (0 : Int32) (((0 : Int32) + (1 : Int32)) + (1 : Int32)) nv) ((own_pl (0 : Int32) nv) + mv) T244.heap n0 Z245 f244_3 f244_4) hZ (ow hw 42 rfl) (ow hw 7 rfl) (by decide) (by decide)) q246a q246c (g := (mkF m 159 #[.val (.int p0), .val (.int p1), .val (.int p2), .val (.int p3), .val (.int (1 : Int32)), .val (.int (own_b (¬ ((p0 &&& (2 : Int32)) = (0 : Int32))))), .val (.int (2 : Int32)), .val (.int mv), .val (.int nv), .val (.ref b225), .val (.int (own_b ((0 : Int32) < (((0 : Int32) + (1 : Int32)) + (1 : Int32))))), .unset] [(.ref b225)])) rfl (by rw [hml]; rfl) (Steps.refl _) (argsL := []) (rest := []) (lenOf pd8 rfl) rfl (by show 2 * 0 + _ ≤ _; exact Nat.le_of_eq rfl) (hb hby at_159) (fun _ _ => ⟨rfl, rfl, (by decide : 3 + 0 ≤ _), (by decide : 21 + 0 ≤ _)⟩)
        dsimp only [Pt.U, Pt.locs, Pt.cells, Pt.slots] at X246 l246 y246 z246 st246 hQ246
        subst l246 y246 z246
        obtain ⟨rfl, N246q, e246⟩ := hQ246
        have N246 := Fr.app N244 N246q
        have pre247 : ∀ tZ, Steps p.tables e below (T246.setTop (mkF m 189 #[.val (.int p0), .val (.int p1), .val (.int p2), .val (.int p3), .val (.int (1 : Int32)), .val (.int (own_b (¬ ((p0 &&& (2 : Int32)) = (0 : Int32))))), .val (.int (2 : Int32)), .val (.int mv), .val (.int nv), .val (.ref b225), .val (.int (own_b ((0 : Int32) < (((0 : Int32) + (1 : Int32)) + (1 : Int32))))), .val (.int (own_b (((own_pl (0 : Int32) nv) + mv) < (own_ps (0 : Int32) (((0 : Int32) + (1 : Int32)) + (1 : Int32)) nv))))] [(.int (((2 : Int32) - mv) - nv)), (.int (own_b (((own_pl (0 : Int32) nv) + mv) < (own_ps (0 : Int32) (((0 : Int32) + (1 : Int32)) + (1 : Int32)) nv))))])) tZ → Steps p.tables e below (s₁.setTop (entryFrame m #[(.int p0), (.int p1), (.int p2), (.int p3)] maxLocals)) tZ := fun tZ kZ => pre239 tZ (by
          show Steps p.tables e below (T238.setTop (mkF m 123 #[.val (.int p0), .val (.int p1), .val (.int p2), .val (.int p3), .val (.int (1 : Int32)), .val (.int (own_b (¬ ((p0 &&& (2 : Int32)) = (0 : Int32))))), .val (.int (2 : Int32)), .val (.int mv), .val (.int nv), .val (.ref b225), .val (.int (own_b ((0 : Int32) < (((0 : Int32) + (1 : Int32)) + (1 : Int32))))), .unset] [(.int (own_b (¬ ((p0 &&& (2 : Int32)) = (0 : Int32)))))])) _
          refine XS.ifNo X238.here hx rfl (hb hby at_123) rfl ((if0 _ _).trans (feq (own_b_nz hc240)).1) ?_
          show Steps p.tables e below (T238.setTop (mkF m 126 #[.val (.int p0), .val (.int p1), .val (.int p2), .val (.int p3), .val (.int (1 : Int32)), .val (.int (own_b (¬ ((p0 &&& (2 : Int32)) = (0 : Int32))))), .val (.int (2 : Int32)), .val (.int mv), .val (.int nv), .val (.ref b225), .val (.int (own_b ((0 : Int32) < (((0 : Int32) + (1 : Int32)) + (1 : Int32))))), .unset] [])) _
          refine XS.aload X238.here hx rfl (hb hby at_126) rfl rfl ?_
          show Steps p.tables e below (T238.setTop (mkF m 128 #[.val (.int p0), .val (.int p1), .val (.int p2), .val (.int p3), .val (.int (1 : Int32)), .val (.int (own_b (¬ ((p0 &&& (2 : Int32)) = (0 : Int32))))), .val (.int (2 : Int32)), .val (.int mv), .val (.int nv), .val (.ref b225), .val (.int (own_b ((0 : Int32) < (((0 : Int32) + (1 : Int32)) + (1 : Int32))))), .unset] [(.ref b225)])) _
          refine XS.iload X238.here hx rfl (hb hby at_128) rfl  ?_
          show Steps p.tables e below (T238.setTop (mkF m 130 #[.val (.int p0), .val (.int p1), .val (.int p2), .val (.int p3), .val (.int (1 : Int32)), .val (.int (own_b (¬ ((p0 &&& (2 : Int32)) = (0 : Int32))))), .val (.int (2 : Int32)), .val (.int mv), .val (.int nv), .val (.ref b225), .val (.int (own_b ((0 : Int32) < (((0 : Int32) + (1 : Int32)) + (1 : Int32))))), .unset] [(.int nv), (.ref b225)])) _
          refine st241 _ ?_
          show Steps p.tables e below (T241.setTop (mkF m 133 #[.val (.int p0), .val (.int p1), .val (.int p2), .val (.int p3), .val (.int (1 : Int32)), .val (.int (own_b (¬ ((p0 &&& (2 : Int32)) = (0 : Int32))))), .val (.int (2 : Int32)), .val (.int mv), .val (.int nv), .val (.ref b225), .val (.int (own_b ((0 : Int32) < (((0 : Int32) + (1 : Int32)) + (1 : Int32))))), .unset] [])) _
          refine XS.aload X241.here hx rfl (hb hby at_133) rfl rfl ?_
          show Steps p.tables e below (T241.setTop (mkF m 135 #[.val (.int p0), .val (.int p1), .val (.int p2), .val (.int p3), .val (.int (1 : Int32)), .val (.int (own_b (¬ ((p0 &&& (2 : Int32)) = (0 : Int32))))), .val (.int (2 : Int32)), .val (.int mv), .val (.int nv), .val (.ref b225), .val (.int (own_b ((0 : Int32) < (((0 : Int32) + (1 : Int32)) + (1 : Int32))))), .unset] [(.ref b225)])) _
          refine XS.iload X241.here hx rfl (hb hby at_135) rfl  ?_
          show Steps p.tables e below (T241.setTop (mkF m 137 #[.val (.int p0), .val (.int p1), .val (.int p2), .val (.int p3), .val (.int (1 : Int32)), .val (.int (own_b (¬ ((p0 &&& (2 : Int32)) = (0 : Int32))))), .val (.int (2 : Int32)), .val (.int mv), .val (.int nv), .val (.ref b225), .val (.int (own_b ((0 : Int32) < (((0 : Int32) + (1 : Int32)) + (1 : Int32))))), .unset] [(.int mv), (.ref b225)])) _
          refine st244 _ ?_
          show Steps p.tables e below (T244.setTop (mkF m 140 #[.val (.int p0), .val (.int p1), .val (.int p2), .val (.int p3), .val (.int (1 : Int32)), .val (.int (own_b (¬ ((p0 &&& (2 : Int32)) = (0 : Int32))))), .val (.int (2 : Int32)), .val (.int mv), .val (.int nv), .val (.ref b225), .val (.int (own_b ((0 : Int32) < (((0 : Int32) + (1 : Int32)) + (1 : Int32))))), .unset] [])) _
          refine XS.goto X244.here hx rfl (pc0 := 140) (pc' := 157) rfl (hb hby at_140) (by decide) (by decide) ?_
          show Steps p.tables e below (T244.setTop (mkF m 157 #[.val (.int p0), .val (.int p1), .val (.int p2), .val (.int p3), .val (.int (1 : Int32)), .val (.int (own_b (¬ ((p0 &&& (2 : Int32)) = (0 : Int32))))), .val (.int (2 : Int32)), .val (.int mv), .val (.int nv), .val (.ref b225), .val (.int (own_b ((0 : Int32) < (((0 : Int32) + (1 : Int32)) + (1 : Int32))))), .unset] [])) _
          refine XS.aload X244.here hx rfl (hb hby at_157) rfl rfl ?_
          show Steps p.tables e below (T244.setTop (mkF m 159 #[.val (.int p0), .val (.int p1), .val (.int p2), .val (.int p3), .val (.int (1 : Int32)), .val (.int (own_b (¬ ((p0 &&& (2 : Int32)) = (0 : Int32))))), .val (.int (2 : Int32)), .val (.int mv), .val (.int nv), .val (.ref b225), .val (.int (own_b ((0 : Int32) < (((0 : Int32) + (1 : Int32)) + (1 : Int32))))), .unset] [(.ref b225)])) _
          refine st246.trans ?_
          show Steps p.tables e below (T246.setTop (mkF m 162 #[.val (.int p0), .val (.int p1), .val (.int p2), .val (.int p3), .val (.int (1 : Int32)), .val (.int (own_b (¬ ((p0 &&& (2 : Int32)) = (0 : Int32))))), .val (.int (2 : Int32)), .val (.int mv), .val (.int nv), .val (.ref b225), .val (.int (own_b ((0 : Int32) < (((0 : Int32) + (1 : Int32)) + (1 : Int32))))), .unset] [(.int (own_b (((own_pl (0 : Int32) nv) + mv) < (own_ps (0 : Int32) (((0 : Int32) + (1 : Int32)) + (1 : Int32)) nv))))])) _
          refine XS.istore X246.here hx rfl (hb hby at_162) rfl (l' := #[.val (.int p0), .val (.int p1), .val (.int p2), .val (.int p3), .val (.int (1 : Int32)), .val (.int (own_b (¬ ((p0 &&& (2 : Int32)) = (0 : Int32))))), .val (.int (2 : Int32)), .val (.int mv), .val (.int nv), .val (.ref b225), .val (.int (own_b ((0 : Int32) < (((0 : Int32) + (1 : Int32)) + (1 : Int32))))), .val (.int (own_b (((own_pl (0 : Int32) nv) + mv) < (own_ps (0 : Int32) (((0 : Int32) + (1 : Int32)) + (1 : Int32)) nv))))]) rfl ?_
          show Steps p.tables e below (T246.setTop (mkF m 164 #[.val (.int p0), .val (.int p1), .val (.int p2), .val (.int p3), .val (.int (1 : Int32)), .val (.int (own_b (¬ ((p0 &&& (2 : Int32)) = (0 : Int32))))), .val (.int (2 : Int32)), .val (.int mv), .val (.int nv), .val (.ref b225), .val (.int (own_b ((0 : Int32) < (((0 : Int32) + (1 : Int32)) + (1 : Int32))))), .val (.int (own_b (((own_pl (0 : Int32) nv) + mv) < (own_ps (0 : Int32) (((0 : Int32) + (1 : Int32)) + (1 : Int32)) nv))))] [])) _
          refine XS.iload X246.here hx rfl (hb hby at_164) rfl  ?_
          show Steps p.tables e below (T246.setTop (mkF m 166 #[.val (.int p0), .val (.int p1), .val (.int p2), .val (.int p3), .val (.int (1 : Int32)), .val (.int (own_b (¬ ((p0 &&& (2 : Int32)) = (0 : Int32))))), .val (.int (2 : Int32)), .val (.int mv), .val (.int nv), .val (.ref b225), .val (.int (own_b ((0 : Int32) < (((0 : Int32) + (1 : Int32)) + (1 : Int32))))), .val (.int (own_b (((own_pl (0 : Int32) nv) + mv) < (own_ps (0 : Int32) (((0 : Int32) + (1 : Int32)) + (1 : Int32)) nv))))] [(.int (own_b ((0 : Int32) < (((0 : Int32) + (1 : Int32)) + (1 : Int32)))))])) _
          refine XS.iload X246.here hx rfl (hb hby at_166) rfl  ?_
          show Steps p.tables e below (T246.setTop (mkF m 168 #[.val (.int p0), .val (.int p1), .val (.int p2), .val (.int p3), .val (.int (1 : Int32)), .val (.int (own_b (¬ ((p0 &&& (2 : Int32)) = (0 : Int32))))), .val (.int (2 : Int32)), .val (.int mv), .val (.int nv), .val (.ref b225), .val (.int (own_b ((0 : Int32) < (((0 : Int32) + (1 : Int32)) + (1 : Int32))))), .val (.int (own_b (((own_pl (0 : Int32) nv) + mv) < (own_ps (0 : Int32) (((0 : Int32) + (1 : Int32)) + (1 : Int32)) nv))))] [(.int (2 : Int32)), (.int (own_b ((0 : Int32) < (((0 : Int32) + (1 : Int32)) + (1 : Int32)))))])) _
          refine XS.ifNo X246.here hx rfl (hb hby at_168) rfl ((if0 _ _).trans (tlt (by decide)).2.2.2) ?_
          show Steps p.tables e below (T246.setTop (mkF m 171 #[.val (.int p0), .val (.int p1), .val (.int p2), .val (.int p3), .val (.int (1 : Int32)), .val (.int (own_b (¬ ((p0 &&& (2 : Int32)) = (0 : Int32))))), .val (.int (2 : Int32)), .val (.int mv), .val (.int nv), .val (.ref b225), .val (.int (own_b ((0 : Int32) < (((0 : Int32) + (1 : Int32)) + (1 : Int32))))), .val (.int (own_b (((own_pl (0 : Int32) nv) + mv) < (own_ps (0 : Int32) (((0 : Int32) + (1 : Int32)) + (1 : Int32)) nv))))] [(.int (own_b ((0 : Int32) < (((0 : Int32) + (1 : Int32)) + (1 : Int32)))))])) _
          refine XS.iconst X246.here hx rfl (hb hby at_171) ?_
          show Steps p.tables e below (T246.setTop (mkF m 172 #[.val (.int p0), .val (.int p1), .val (.int p2), .val (.int p3), .val (.int (1 : Int32)), .val (.int (own_b (¬ ((p0 &&& (2 : Int32)) = (0 : Int32))))), .val (.int (2 : Int32)), .val (.int mv), .val (.int nv), .val (.ref b225), .val (.int (own_b ((0 : Int32) < (((0 : Int32) + (1 : Int32)) + (1 : Int32))))), .val (.int (own_b (((own_pl (0 : Int32) nv) + mv) < (own_ps (0 : Int32) (((0 : Int32) + (1 : Int32)) + (1 : Int32)) nv))))] [(.int (1 : Int32)), (.int (own_b ((0 : Int32) < (((0 : Int32) + (1 : Int32)) + (1 : Int32)))))])) _
          refine XS.goto X246.here hx rfl (pc0 := 172) (pc' := 176) rfl (hb hby at_172) (by decide) (by decide) ?_
          show Steps p.tables e below (T246.setTop (mkF m 176 #[.val (.int p0), .val (.int p1), .val (.int p2), .val (.int p3), .val (.int (1 : Int32)), .val (.int (own_b (¬ ((p0 &&& (2 : Int32)) = (0 : Int32))))), .val (.int (2 : Int32)), .val (.int mv), .val (.int nv), .val (.ref b225), .val (.int (own_b ((0 : Int32) < (((0 : Int32) + (1 : Int32)) + (1 : Int32))))), .val (.int (own_b (((own_pl (0 : Int32) nv) + mv) < (own_ps (0 : Int32) (((0 : Int32) + (1 : Int32)) + (1 : Int32)) nv))))] [(.int (1 : Int32)), (.int (own_b ((0 : Int32) < (((0 : Int32) + (1 : Int32)) + (1 : Int32)))))])) _
          refine XS.icmpNo X246.here hx rfl (hb hby at_176) rfl (teq (by decide)).2 ?_
          show Steps p.tables e below (T246.setTop (mkF m 179 #[.val (.int p0), .val (.int p1), .val (.int p2), .val (.int p3), .val (.int (1 : Int32)), .val (.int (own_b (¬ ((p0 &&& (2 : Int32)) = (0 : Int32))))), .val (.int (2 : Int32)), .val (.int mv), .val (.int nv), .val (.ref b225), .val (.int (own_b ((0 : Int32) < (((0 : Int32) + (1 : Int32)) + (1 : Int32))))), .val (.int (own_b (((own_pl (0 : Int32) nv) + mv) < (own_ps (0 : Int32) (((0 : Int32) + (1 : Int32)) + (1 : Int32)) nv))))] [])) _
          refine XS.iload X246.here hx rfl (hb hby at_179) rfl  ?_
          show Steps p.tables e below (T246.setTop (mkF m 181 #[.val (.int p0), .val (.int p1), .val (.int p2), .val (.int p3), .val (.int (1 : Int32)), .val (.int (own_b (¬ ((p0 &&& (2 : Int32)) = (0 : Int32))))), .val (.int (2 : Int32)), .val (.int mv), .val (.int nv), .val (.ref b225), .val (.int (own_b ((0 : Int32) < (((0 : Int32) + (1 : Int32)) + (1 : Int32))))), .val (.int (own_b (((own_pl (0 : Int32) nv) + mv) < (own_ps (0 : Int32) (((0 : Int32) + (1 : Int32)) + (1 : Int32)) nv))))] [(.int (own_b (((own_pl (0 : Int32) nv) + mv) < (own_ps (0 : Int32) (((0 : Int32) + (1 : Int32)) + (1 : Int32)) nv))))])) _
          refine XS.iload X246.here hx rfl (hb hby at_181) rfl  ?_
          show Steps p.tables e below (T246.setTop (mkF m 183 #[.val (.int p0), .val (.int p1), .val (.int p2), .val (.int p3), .val (.int (1 : Int32)), .val (.int (own_b (¬ ((p0 &&& (2 : Int32)) = (0 : Int32))))), .val (.int (2 : Int32)), .val (.int mv), .val (.int nv), .val (.ref b225), .val (.int (own_b ((0 : Int32) < (((0 : Int32) + (1 : Int32)) + (1 : Int32))))), .val (.int (own_b (((own_pl (0 : Int32) nv) + mv) < (own_ps (0 : Int32) (((0 : Int32) + (1 : Int32)) + (1 : Int32)) nv))))] [(.int (2 : Int32)), (.int (own_b (((own_pl (0 : Int32) nv) + mv) < (own_ps (0 : Int32) (((0 : Int32) + (1 : Int32)) + (1 : Int32)) nv))))])) _
          refine XS.iload X246.here hx rfl (hb hby at_183) rfl  ?_
          show Steps p.tables e below (T246.setTop (mkF m 185 #[.val (.int p0), .val (.int p1), .val (.int p2), .val (.int p3), .val (.int (1 : Int32)), .val (.int (own_b (¬ ((p0 &&& (2 : Int32)) = (0 : Int32))))), .val (.int (2 : Int32)), .val (.int mv), .val (.int nv), .val (.ref b225), .val (.int (own_b ((0 : Int32) < (((0 : Int32) + (1 : Int32)) + (1 : Int32))))), .val (.int (own_b (((own_pl (0 : Int32) nv) + mv) < (own_ps (0 : Int32) (((0 : Int32) + (1 : Int32)) + (1 : Int32)) nv))))] [(.int mv), (.int (2 : Int32)), (.int (own_b (((own_pl (0 : Int32) nv) + mv) < (own_ps (0 : Int32) (((0 : Int32) + (1 : Int32)) + (1 : Int32)) nv))))])) _
          refine XS.isub X246.here hx rfl (hb hby at_185) rfl ?_
          show Steps p.tables e below (T246.setTop (mkF m 186 #[.val (.int p0), .val (.int p1), .val (.int p2), .val (.int p3), .val (.int (1 : Int32)), .val (.int (own_b (¬ ((p0 &&& (2 : Int32)) = (0 : Int32))))), .val (.int (2 : Int32)), .val (.int mv), .val (.int nv), .val (.ref b225), .val (.int (own_b ((0 : Int32) < (((0 : Int32) + (1 : Int32)) + (1 : Int32))))), .val (.int (own_b (((own_pl (0 : Int32) nv) + mv) < (own_ps (0 : Int32) (((0 : Int32) + (1 : Int32)) + (1 : Int32)) nv))))] [(.int ((2 : Int32) - mv)), (.int (own_b (((own_pl (0 : Int32) nv) + mv) < (own_ps (0 : Int32) (((0 : Int32) + (1 : Int32)) + (1 : Int32)) nv))))])) _
          refine XS.iload X246.here hx rfl (hb hby at_186) rfl  ?_
          show Steps p.tables e below (T246.setTop (mkF m 188 #[.val (.int p0), .val (.int p1), .val (.int p2), .val (.int p3), .val (.int (1 : Int32)), .val (.int (own_b (¬ ((p0 &&& (2 : Int32)) = (0 : Int32))))), .val (.int (2 : Int32)), .val (.int mv), .val (.int nv), .val (.ref b225), .val (.int (own_b ((0 : Int32) < (((0 : Int32) + (1 : Int32)) + (1 : Int32))))), .val (.int (own_b (((own_pl (0 : Int32) nv) + mv) < (own_ps (0 : Int32) (((0 : Int32) + (1 : Int32)) + (1 : Int32)) nv))))] [(.int nv), (.int ((2 : Int32) - mv)), (.int (own_b (((own_pl (0 : Int32) nv) + mv) < (own_ps (0 : Int32) (((0 : Int32) + (1 : Int32)) + (1 : Int32)) nv))))])) _
          refine XS.isub X246.here hx rfl (hb hby at_188) rfl ?_
          exact kZ)
        have pre249 : ∀ tZ, Steps p.tables e below (T246.setTop (mkF m 197 #[.val (.int p0), .val (.int p1), .val (.int p2), .val (.int p3), .val (.int (1 : Int32)), .val (.int (own_b (¬ ((p0 &&& (2 : Int32)) = (0 : Int32))))), .val (.int (2 : Int32)), .val (.int mv), .val (.int nv), .val (.ref b225), .val (.int (own_b ((0 : Int32) < (((0 : Int32) + (1 : Int32)) + (1 : Int32))))), .val (.int (own_b (((own_pl (0 : Int32) nv) + mv) < (own_ps (0 : Int32) (((0 : Int32) + (1 : Int32)) + (1 : Int32)) nv))))] [(.int (own_b ((0 : Int32) < (((2 : Int32) - mv) - nv)))), (.int (own_b (((own_pl (0 : Int32) nv) + mv) < (own_ps (0 : Int32) (((0 : Int32) + (1 : Int32)) + (1 : Int32)) nv))))])) tZ → Steps p.tables e below (s₁.setTop (entryFrame m #[(.int p0), (.int p1), (.int p2), (.int p3)] maxLocals)) tZ := fun tZ kZ => pre247 tZ (by
          by_cases hc248 : (0 : Int32) < (((2 : Int32) - mv) - nv)
          ·  -- yes
            show Steps p.tables e below (T246.setTop (mkF m 189 #[.val (.int p0), .val (.int p1), .val (.int p2), .val (.int p3), .val (.int (1 : Int32)), .val (.int (own_b (¬ ((p0 &&& (2 : Int32)) = (0 : Int32))))), .val (.int (2 : Int32)), .val (.int mv), .val (.int nv), .val (.ref b225), .val (.int (own_b ((0 : Int32) < (((0 : Int32) + (1 : Int32)) + (1 : Int32))))), .val (.int (own_b (((own_pl (0 : Int32) nv) + mv) < (own_ps (0 : Int32) (((0 : Int32) + (1 : Int32)) + (1 : Int32)) nv))))] [(.int (((2 : Int32) - mv) - nv)), (.int (own_b (((own_pl (0 : Int32) nv) + mv) < (own_ps (0 : Int32) (((0 : Int32) + (1 : Int32)) + (1 : Int32)) nv))))])) _
            refine XS.ifNo X246.here hx rfl (hb hby at_189) rfl ((if0 _ _).trans (tlt hc248).2.2.2) ?_
            show Steps p.tables e below (T246.setTop (mkF m 192 #[.val (.int p0), .val (.int p1), .val (.int p2), .val (.int p3), .val (.int (1 : Int32)), .val (.int (own_b (¬ ((p0 &&& (2 : Int32)) = (0 : Int32))))), .val (.int (2 : Int32)), .val (.int mv), .val (.int nv), .val (.ref b225), .val (.int (own_b ((0 : Int32) < (((0 : Int32) + (1 : Int32)) + (1 : Int32))))), .val (.int (own_b (((own_pl (0 : Int32) nv) + mv) < (own_ps (0 : Int32) (((0 : Int32) + (1 : Int32)) + (1 : Int32)) nv))))] [(.int (own_b (((own_pl (0 : Int32) nv) + mv) < (own_ps (0 : Int32) (((0 : Int32) + (1 : Int32)) + (1 : Int32)) nv))))])) _
            refine XS.iconst X246.here hx rfl (hb hby at_192) ?_
            show Steps p.tables e below (T246.setTop (mkF m 193 #[.val (.int p0), .val (.int p1), .val (.int p2), .val (.int p3), .val (.int (1 : Int32)), .val (.int (own_b (¬ ((p0 &&& (2 : Int32)) = (0 : Int32))))), .val (.int (2 : Int32)), .val (.int mv), .val (.int nv), .val (.ref b225), .val (.int (own_b ((0 : Int32) < (((0 : Int32) + (1 : Int32)) + (1 : Int32))))), .val (.int (own_b (((own_pl (0 : Int32) nv) + mv) < (own_ps (0 : Int32) (((0 : Int32) + (1 : Int32)) + (1 : Int32)) nv))))] [(.int (1 : Int32)), (.int (own_b (((own_pl (0 : Int32) nv) + mv) < (own_ps (0 : Int32) (((0 : Int32) + (1 : Int32)) + (1 : Int32)) nv))))])) _
            refine XS.goto X246.here hx rfl (pc0 := 193) (pc' := 197) rfl (hb hby at_193) (by decide) (by decide) ?_
            have ekZ : (own_b ((0 : Int32) < (((2 : Int32) - mv) - nv))) = (1 : Int32) := by first | (simp only [own_b, eq_true hc248, and_true, true_and, and_false, false_and, or_true, true_or, or_false, false_or, not_true_eq_false, not_false_eq_true, if_true, if_false, reduceIte]; done) | (simp [own_b, hc248]; done)
            rw [ekZ] at kZ
            exact kZ
          ·  -- no
            show Steps p.tables e below (T246.setTop (mkF m 189 #[.val (.int p0), .val (.int p1), .val (.int p2), .val (.int p3), .val (.int (1 : Int32)), .val (.int (own_b (¬ ((p0 &&& (2 : Int32)) = (0 : Int32))))), .val (.int (2 : Int32)), .val (.int mv), .val (.int nv), .val (.ref b225), .val (.int (own_b ((0 : Int32) < (((0 : Int32) + (1 : Int32)) + (1 : Int32))))), .val (.int (own_b (((own_pl (0 : Int32) nv) + mv) < (own_ps (0 : Int32) (((0 : Int32) + (1 : Int32)) + (1 : Int32)) nv))))] [(.int (((2 : Int32) - mv) - nv)), (.int (own_b (((own_pl (0 : Int32) nv) + mv) < (own_ps (0 : Int32) (((0 : Int32) + (1 : Int32)) + (1 : Int32)) nv))))])) _
            refine XS.ifYes X246.here hx rfl (pc0 := 189) (pc' := 196) rfl (hb hby at_189) rfl ((if0 _ _).trans (flt hc248).2.2.2) (by decide) (by decide) ?_
            show Steps p.tables e below (T246.setTop (mkF m 196 #[.val (.int p0), .val (.int p1), .val (.int p2), .val (.int p3), .val (.int (1 : Int32)), .val (.int (own_b (¬ ((p0 &&& (2 : Int32)) = (0 : Int32))))), .val (.int (2 : Int32)), .val (.int mv), .val (.int nv), .val (.ref b225), .val (.int (own_b ((0 : Int32) < (((0 : Int32) + (1 : Int32)) + (1 : Int32))))), .val (.int (own_b (((own_pl (0 : Int32) nv) + mv) < (own_ps (0 : Int32) (((0 : Int32) + (1 : Int32)) + (1 : Int32)) nv))))] [(.int (own_b (((own_pl (0 : Int32) nv) + mv) < (own_ps (0 : Int32) (((0 : Int32) + (1 : Int32)) + (1 : Int32)) nv))))])) _
            refine XS.iconst X246.here hx rfl (hb hby at_196) ?_
            have ekZ : (own_b ((0 : Int32) < (((2 : Int32) - mv) - nv))) = (0 : Int32) := by first | (simp only [own_b, eq_false hc248, and_true, true_and, and_false, false_and, or_true, true_or, or_false, false_or, not_true_eq_false, not_false_eq_true, if_true, if_false, reduceIte]; done) | (simp [own_b, hc248]; done)
            rw [ekZ] at kZ
            exact kZ)
        obtain ⟨fsZ, hrZ, hrun, hended, hW, hsame⟩ := X246.leave (v := some (.int (1 : Int32))) (fun h => by rw [Bd.returns] at h; cases h)
        refine ⟨_, _, pre249 _ ?_, hrun, hended, _, _, rfl, ?_, ⟨_, rfl⟩, hW, hsame.mono (by decide) (by decide)⟩
        · show Steps p.tables e below (T246.setTop (mkF m 197 #[.val (.int p0), .val (.int p1), .val (.int p2), .val (.int p3), .val (.int (1 : Int32)), .val (.int (own_b (¬ ((p0 &&& (2 : Int32)) = (0 : Int32))))), .val (.int (2 : Int32)), .val (.int mv), .val (.int nv), .val (.ref b225), .val (.int (own_b ((0 : Int32) < (((0 : Int32) + (1 : Int32)) + (1 : Int32))))), .val (.int (own_b (((own_pl (0 : Int32) nv) + mv) < (own_ps (0 : Int32) (((0 : Int32) + (1 : Int32)) + (1 : Int32)) nv))))] [(.int (own_b ((0 : Int32) < (((2 : Int32) - mv) - nv)))), (.int (own_b (((own_pl (0 : Int32) nv) + mv) < (own_ps (0 : Int32) (((0 : Int32) + (1 : Int32)) + (1 : Int32)) nv))))])) _
          refine XS.icmpNo X246.here hx rfl (hb hby at_197) rfl (teq (own_fin_p (by decide) hm4 hn4 hm3.2.2 hn3.2.2)).2 ?_
          show Steps p.tables e below (T246.setTop (mkF m 200 #[.val (.int p0), .val (.int p1), .val (.int p2), .val (.int p3), .val (.int (1 : Int32)), .val (.int (own_b (¬ ((p0 &&& (2 : Int32)) = (0 : Int32))))), .val (.int (2 : Int32)), .val (.int mv), .val (.int nv), .val (.ref b225), .val (.int (own_b ((0 : Int32) < (((0 : Int32) + (1 : Int32)) + (1 : Int32))))), .val (.int (own_b (((own_pl (0 : Int32) nv) + mv) < (own_ps (0 : Int32) (((0 : Int32) + (1 : Int32)) + (1 : Int32)) nv))))] [])) _
          refine XS.iconst X246.here hx rfl (hb hby at_200) ?_
          show Steps p.tables e below (T246.setTop (mkF m 201 #[.val (.int p0), .val (.int p1), .val (.int p2), .val (.int p3), .val (.int (1 : Int32)), .val (.int (own_b (¬ ((p0 &&& (2 : Int32)) = (0 : Int32))))), .val (.int (2 : Int32)), .val (.int mv), .val (.int nv), .val (.ref b225), .val (.int (own_b ((0 : Int32) < (((0 : Int32) + (1 : Int32)) + (1 : Int32))))), .val (.int (own_b (((own_pl (0 : Int32) nv) + mv) < (own_ps (0 : Int32) (((0 : Int32) + (1 : Int32)) + (1 : Int32)) nv))))] [(.int (1 : Int32))])) _
          refine XS.goto X246.here hx rfl (pc0 := 201) (pc' := 205) rfl (hb hby at_201) (by decide) (by decide) ?_
          show Steps p.tables e below (T246.setTop (mkF m 205 #[.val (.int p0), .val (.int p1), .val (.int p2), .val (.int p3), .val (.int (1 : Int32)), .val (.int (own_b (¬ ((p0 &&& (2 : Int32)) = (0 : Int32))))), .val (.int (2 : Int32)), .val (.int mv), .val (.int nv), .val (.ref b225), .val (.int (own_b ((0 : Int32) < (((0 : Int32) + (1 : Int32)) + (1 : Int32))))), .val (.int (own_b (((own_pl (0 : Int32) nv) + mv) < (own_ps (0 : Int32) (((0 : Int32) + (1 : Int32)) + (1 : Int32)) nv))))] [(.int (1 : Int32))])) _
          exact retN X246 hx (t := .boolean) Bd.returns (by simp) (hb hby at_205) hrZ
        · show Q0 Z p0 p1 p2 p3 h0 n0 _ T246.heap _
          rw [e246]
          exact ⟨rfl, N246⟩
      ·  -- no
        obtain ⟨_, _, ⟨T250, L250, k250, n250⟩, -, X250, ⟨Lc250, hQ250, l250, y250, z250⟩, st250⟩ := Jvm.LawKit.callS X238 hx (y := (⟨oL, "doMarks", "(Lcom/example/portunus/portunus/policy/Run;I)V"⟩ : MethodName)) hown (mvT hZ (ow hw 45 rfl)) (mvT hZ (ow hw 46 rfl)) (mvT hZ (ow hw 47 rfl)) (mvT hZ (ow hw 48 rfl)) (by decide) (backOf (W := 0) (rm8d l Z a0 hw [] b225 mv tk_228 (((0 : Int32) + (1 : Int32)) + (1 : Int32)) (0 : Int32) (0 : Int32) kt_229 dd_230 T236.heap n0 Z237 f236_0 f236_1 f236_2 f236_3 f236_4 f236_5 f236_6 gn_b225 u227_0 ne232 f236_7 u227_2 ne233 u227_4 hm4) hZ (ow hw 48 rfl) (ow hw 47 rfl) (by decide) (by decide)) (g := (mkF m 147 #[.val (.int p0), .val (.int p1), .val (.int p2), .val (.int p3), .val (.int (1 : Int32)), .val (.int (own_b (¬ ((p0 &&& (2 : Int32)) = (0 : Int32))))), .val (.int (2 : Int32)), .val (.int mv), .val (.int nv), .val (.ref b225), .val (.int (own_b ((0 : Int32) < (((0 : Int32) + (1 : Int32)) + (1 : Int32))))), .unset] [(.int mv), (.ref b225)])) rfl (by rw [hml]; rfl) (argsL := [(.ref b225), (.int mv)]) (rest := []) (lenOf pd9 rfl) rfl (by show 2 * 0 + _ ≤ _; exact Nat.le_of_eq rfl) (hb hby at_147) (fun _ _ => ⟨rfl, e238, (by decide : 3 + 0 ≤ _), (by decide : 21 + 0 ≤ _)⟩)
        dsimp only [Pt.U, Pt.locs, Pt.cells, Pt.slots] at X250 l250 y250 z250 st250 hQ250
        subst l250 y250 z250
        obtain ⟨rfl, N250q, K250, f250_0, f250_1, f250_2, f250_3, f250_4, f250_5, f250_6, f250_7⟩ := hQ250
        have N250 := Fr.app N238 N250q
        have Z251 : n0 ≤ T250.heap.size := Nat.le_trans Z237 K250.1
        obtain ⟨_, _, ⟨T252, L252, k252, n252⟩, -, X252, ⟨Lc252, hQ252, l252, y252, z252⟩, st252⟩ := Jvm.LawKit.callS X250 hx (y := (⟨oL, "doPolls", "(Lcom/example/portunus/portunus/policy/Run;I)V"⟩ : MethodName)) hown (mvT hZ (ow hw 54 rfl)) (mvT hZ (ow hw 55 rfl)) (mvT hZ (ow hw 47 rfl)) (mvT hZ (ow hw 56 rfl)) (by decide) (backOf (W := 0) (rm10d l Z a0 hw [] b225 nv tk_228 (((0 : Int32) + (1 : Int32)) + (1 : Int32)) ((0 : Int32) + mv) (0 : Int32) kt_229 dd_230 T250.heap n0 Z251 f250_0 f250_1 f250_2 f250_3 f250_4 f250_5 f250_6 gn_b225 u227_0 ne232 f250_7 u227_2 ne233 u227_4 hn4 (own_nz1 hm4)) hZ (ow hw 56 rfl) (ow hw 47 rfl) (by decide) (by decide)) (g := (mkF m 154 #[.val (.int p0), .val (.int p1), .val (.int p2), .val (.int p3), .val (.int (1 : Int32)), .val (.int (own_b (¬ ((p0 &&& (2 : Int32)) = (0 : Int32))))), .val (.int (2 : Int32)), .val (.int mv), .val (.int nv), .val (.ref b225), .val (.int (own_b ((0 : Int32) < (((0 : Int32) + (1 : Int32)) + (1 : Int32))))), .unset] [(.int nv), (.ref b225)])) rfl (by rw [hml]; rfl) (argsL := [(.ref b225), (.int nv)]) (rest := []) (lenOf pd9 rfl) rfl (by show 2 * 0 + _ ≤ _; exact Nat.le_of_eq rfl) (hb hby at_154) (fun _ _ => ⟨rfl, rfl, (by decide : 3 + 0 ≤ _), (by decide : 21 + 0 ≤ _)⟩)
        dsimp only [Pt.U, Pt.locs, Pt.cells, Pt.slots] at X252 l252 y252 z252 st252 hQ252
        subst l252 y252 z252
        obtain ⟨fn_253, rfl, N252q, K252, f252_0, f252_1, f252_2, f252_3, f252_4, f252_5, f252_6, f252_7⟩ := hQ252
        have N252 := Fr.app N250 N252q
        have Z254 : n0 ≤ T252.heap.size := Nat.le_trans Z251 K252.1
        obtain ⟨cq255, kq255, q255a, q255b, q255c⟩ := isOf hZ rfl f252_0
        obtain ⟨_, _, ⟨T255, L255, k255, n255⟩, -, X255, ⟨Lc255, hQ255, l255, y255, z255⟩, st255⟩ := X252.virtualBack hx (y := (⟨oR, "hasOther", "()Z"⟩ : MethodName)) (z := (⟨oR, "hasOther", "()Z"⟩ : MethodName)) hown (mvT hZ (ow hw 38 rfl)) (mvT hZ (ow hw 39 rfl)) (notFace_of_selects (args := #[]) (mvT hZ (ow hw 41 rfl))) (mvT hZ (ow hw 41 rfl)) (mvT hZ (ow hw 40 rfl)) (by decide) (backOf (W := 0) (rm7 l Z a0 hw [] b225 (own_ps ((0 : Int32) + mv) (((0 : Int32) + (1 : Int32)) + (1 : Int32)) nv) (own_pl ((0 : Int32) + mv) nv) T252.heap n0 Z254 f252_3 f252_4) hZ (ow hw 42 rfl) (ow hw 7 rfl) (by decide) (by decide)) q255a q255c (g := (mkF m 159 #[.val (.int p0), .val (.int p1), .val (.int p2), .val (.int p3), .val (.int (1 : Int32)), .val (.int (own_b (¬ ((p0 &&& (2 : Int32)) = (0 : Int32))))), .val (.int (2 : Int32)), .val (.int mv), .val (.int nv), .val (.ref b225), .val (.int (own_b ((0 : Int32) < (((0 : Int32) + (1 : Int32)) + (1 : Int32))))), .unset] [(.ref b225)])) rfl (by rw [hml]; rfl) (Steps.refl _) (argsL := []) (rest := []) (lenOf pd8 rfl) rfl (by show 2 * 0 + _ ≤ _; exact Nat.le_of_eq rfl) (hb hby at_159) (fun _ _ => ⟨rfl, rfl, (by decide : 3 + 0 ≤ _), (by decide : 21 + 0 ≤ _)⟩)
        dsimp only [Pt.U, Pt.locs, Pt.cells, Pt.slots] at X255 l255 y255 z255 st255 hQ255
        subst l255 y255 z255
        obtain ⟨rfl, N255q, e255⟩ := hQ255
        have N255 := Fr.app N252 N255q
        have pre256 : ∀ tZ, Steps p.tables e below (T255.setTop (mkF m 189 #[.val (.int p0), .val (.int p1), .val (.int p2), .val (.int p3), .val (.int (1 : Int32)), .val (.int (own_b (¬ ((p0 &&& (2 : Int32)) = (0 : Int32))))), .val (.int (2 : Int32)), .val (.int mv), .val (.int nv), .val (.ref b225), .val (.int (own_b ((0 : Int32) < (((0 : Int32) + (1 : Int32)) + (1 : Int32))))), .val (.int (own_b ((own_pl ((0 : Int32) + mv) nv) < (own_ps ((0 : Int32) + mv) (((0 : Int32) + (1 : Int32)) + (1 : Int32)) nv))))] [(.int (((2 : Int32) - mv) - nv)), (.int (own_b ((own_pl ((0 : Int32) + mv) nv) < (own_ps ((0 : Int32) + mv) (((0 : Int32) + (1 : Int32)) + (1 : Int32)) nv))))])) tZ → Steps p.tables e below (s₁.setTop (entryFrame m #[(.int p0), (.int p1), (.int p2), (.int p3)] maxLocals)) tZ := fun tZ kZ => pre239 tZ (by
          show Steps p.tables e below (T238.setTop (mkF m 123 #[.val (.int p0), .val (.int p1), .val (.int p2), .val (.int p3), .val (.int (1 : Int32)), .val (.int (own_b (¬ ((p0 &&& (2 : Int32)) = (0 : Int32))))), .val (.int (2 : Int32)), .val (.int mv), .val (.int nv), .val (.ref b225), .val (.int (own_b ((0 : Int32) < (((0 : Int32) + (1 : Int32)) + (1 : Int32))))), .unset] [(.int (own_b (¬ ((p0 &&& (2 : Int32)) = (0 : Int32)))))])) _
          refine XS.ifYes X238.here hx rfl (pc0 := 123) (pc' := 143) rfl (hb hby at_123) rfl ((if0 _ _).trans (teq (own_b_f hc240)).1) (by decide) (by decide) ?_
          show Steps p.tables e below (T238.setTop (mkF m 143 #[.val (.int p0), .val (.int p1), .val (.int p2), .val (.int p3), .val (.int (1 : Int32)), .val (.int (own_b (¬ ((p0 &&& (2 : Int32)) = (0 : Int32))))), .val (.int (2 : Int32)), .val (.int mv), .val (.int nv), .val (.ref b225), .val (.int (own_b ((0 : Int32) < (((0 : Int32) + (1 : Int32)) + (1 : Int32))))), .unset] [])) _
          refine XS.aload X238.here hx rfl (hb hby at_143) rfl rfl ?_
          show Steps p.tables e below (T238.setTop (mkF m 145 #[.val (.int p0), .val (.int p1), .val (.int p2), .val (.int p3), .val (.int (1 : Int32)), .val (.int (own_b (¬ ((p0 &&& (2 : Int32)) = (0 : Int32))))), .val (.int (2 : Int32)), .val (.int mv), .val (.int nv), .val (.ref b225), .val (.int (own_b ((0 : Int32) < (((0 : Int32) + (1 : Int32)) + (1 : Int32))))), .unset] [(.ref b225)])) _
          refine XS.iload X238.here hx rfl (hb hby at_145) rfl  ?_
          show Steps p.tables e below (T238.setTop (mkF m 147 #[.val (.int p0), .val (.int p1), .val (.int p2), .val (.int p3), .val (.int (1 : Int32)), .val (.int (own_b (¬ ((p0 &&& (2 : Int32)) = (0 : Int32))))), .val (.int (2 : Int32)), .val (.int mv), .val (.int nv), .val (.ref b225), .val (.int (own_b ((0 : Int32) < (((0 : Int32) + (1 : Int32)) + (1 : Int32))))), .unset] [(.int mv), (.ref b225)])) _
          refine st250 _ ?_
          show Steps p.tables e below (T250.setTop (mkF m 150 #[.val (.int p0), .val (.int p1), .val (.int p2), .val (.int p3), .val (.int (1 : Int32)), .val (.int (own_b (¬ ((p0 &&& (2 : Int32)) = (0 : Int32))))), .val (.int (2 : Int32)), .val (.int mv), .val (.int nv), .val (.ref b225), .val (.int (own_b ((0 : Int32) < (((0 : Int32) + (1 : Int32)) + (1 : Int32))))), .unset] [])) _
          refine XS.aload X250.here hx rfl (hb hby at_150) rfl rfl ?_
          show Steps p.tables e below (T250.setTop (mkF m 152 #[.val (.int p0), .val (.int p1), .val (.int p2), .val (.int p3), .val (.int (1 : Int32)), .val (.int (own_b (¬ ((p0 &&& (2 : Int32)) = (0 : Int32))))), .val (.int (2 : Int32)), .val (.int mv), .val (.int nv), .val (.ref b225), .val (.int (own_b ((0 : Int32) < (((0 : Int32) + (1 : Int32)) + (1 : Int32))))), .unset] [(.ref b225)])) _
          refine XS.iload X250.here hx rfl (hb hby at_152) rfl  ?_
          show Steps p.tables e below (T250.setTop (mkF m 154 #[.val (.int p0), .val (.int p1), .val (.int p2), .val (.int p3), .val (.int (1 : Int32)), .val (.int (own_b (¬ ((p0 &&& (2 : Int32)) = (0 : Int32))))), .val (.int (2 : Int32)), .val (.int mv), .val (.int nv), .val (.ref b225), .val (.int (own_b ((0 : Int32) < (((0 : Int32) + (1 : Int32)) + (1 : Int32))))), .unset] [(.int nv), (.ref b225)])) _
          refine st252 _ ?_
          show Steps p.tables e below (T252.setTop (mkF m 157 #[.val (.int p0), .val (.int p1), .val (.int p2), .val (.int p3), .val (.int (1 : Int32)), .val (.int (own_b (¬ ((p0 &&& (2 : Int32)) = (0 : Int32))))), .val (.int (2 : Int32)), .val (.int mv), .val (.int nv), .val (.ref b225), .val (.int (own_b ((0 : Int32) < (((0 : Int32) + (1 : Int32)) + (1 : Int32))))), .unset] [])) _
          refine XS.aload X252.here hx rfl (hb hby at_157) rfl rfl ?_
          show Steps p.tables e below (T252.setTop (mkF m 159 #[.val (.int p0), .val (.int p1), .val (.int p2), .val (.int p3), .val (.int (1 : Int32)), .val (.int (own_b (¬ ((p0 &&& (2 : Int32)) = (0 : Int32))))), .val (.int (2 : Int32)), .val (.int mv), .val (.int nv), .val (.ref b225), .val (.int (own_b ((0 : Int32) < (((0 : Int32) + (1 : Int32)) + (1 : Int32))))), .unset] [(.ref b225)])) _
          refine st255.trans ?_
          show Steps p.tables e below (T255.setTop (mkF m 162 #[.val (.int p0), .val (.int p1), .val (.int p2), .val (.int p3), .val (.int (1 : Int32)), .val (.int (own_b (¬ ((p0 &&& (2 : Int32)) = (0 : Int32))))), .val (.int (2 : Int32)), .val (.int mv), .val (.int nv), .val (.ref b225), .val (.int (own_b ((0 : Int32) < (((0 : Int32) + (1 : Int32)) + (1 : Int32))))), .unset] [(.int (own_b ((own_pl ((0 : Int32) + mv) nv) < (own_ps ((0 : Int32) + mv) (((0 : Int32) + (1 : Int32)) + (1 : Int32)) nv))))])) _
          refine XS.istore X255.here hx rfl (hb hby at_162) rfl (l' := #[.val (.int p0), .val (.int p1), .val (.int p2), .val (.int p3), .val (.int (1 : Int32)), .val (.int (own_b (¬ ((p0 &&& (2 : Int32)) = (0 : Int32))))), .val (.int (2 : Int32)), .val (.int mv), .val (.int nv), .val (.ref b225), .val (.int (own_b ((0 : Int32) < (((0 : Int32) + (1 : Int32)) + (1 : Int32))))), .val (.int (own_b ((own_pl ((0 : Int32) + mv) nv) < (own_ps ((0 : Int32) + mv) (((0 : Int32) + (1 : Int32)) + (1 : Int32)) nv))))]) rfl ?_
          show Steps p.tables e below (T255.setTop (mkF m 164 #[.val (.int p0), .val (.int p1), .val (.int p2), .val (.int p3), .val (.int (1 : Int32)), .val (.int (own_b (¬ ((p0 &&& (2 : Int32)) = (0 : Int32))))), .val (.int (2 : Int32)), .val (.int mv), .val (.int nv), .val (.ref b225), .val (.int (own_b ((0 : Int32) < (((0 : Int32) + (1 : Int32)) + (1 : Int32))))), .val (.int (own_b ((own_pl ((0 : Int32) + mv) nv) < (own_ps ((0 : Int32) + mv) (((0 : Int32) + (1 : Int32)) + (1 : Int32)) nv))))] [])) _
          refine XS.iload X255.here hx rfl (hb hby at_164) rfl  ?_
          show Steps p.tables e below (T255.setTop (mkF m 166 #[.val (.int p0), .val (.int p1), .val (.int p2), .val (.int p3), .val (.int (1 : Int32)), .val (.int (own_b (¬ ((p0 &&& (2 : Int32)) = (0 : Int32))))), .val (.int (2 : Int32)), .val (.int mv), .val (.int nv), .val (.ref b225), .val (.int (own_b ((0 : Int32) < (((0 : Int32) + (1 : Int32)) + (1 : Int32))))), .val (.int (own_b ((own_pl ((0 : Int32) + mv) nv) < (own_ps ((0 : Int32) + mv) (((0 : Int32) + (1 : Int32)) + (1 : Int32)) nv))))] [(.int (own_b ((0 : Int32) < (((0 : Int32) + (1 : Int32)) + (1 : Int32)))))])) _
          refine XS.iload X255.here hx rfl (hb hby at_166) rfl  ?_
          show Steps p.tables e below (T255.setTop (mkF m 168 #[.val (.int p0), .val (.int p1), .val (.int p2), .val (.int p3), .val (.int (1 : Int32)), .val (.int (own_b (¬ ((p0 &&& (2 : Int32)) = (0 : Int32))))), .val (.int (2 : Int32)), .val (.int mv), .val (.int nv), .val (.ref b225), .val (.int (own_b ((0 : Int32) < (((0 : Int32) + (1 : Int32)) + (1 : Int32))))), .val (.int (own_b ((own_pl ((0 : Int32) + mv) nv) < (own_ps ((0 : Int32) + mv) (((0 : Int32) + (1 : Int32)) + (1 : Int32)) nv))))] [(.int (2 : Int32)), (.int (own_b ((0 : Int32) < (((0 : Int32) + (1 : Int32)) + (1 : Int32)))))])) _
          refine XS.ifNo X255.here hx rfl (hb hby at_168) rfl ((if0 _ _).trans (tlt (by decide)).2.2.2) ?_
          show Steps p.tables e below (T255.setTop (mkF m 171 #[.val (.int p0), .val (.int p1), .val (.int p2), .val (.int p3), .val (.int (1 : Int32)), .val (.int (own_b (¬ ((p0 &&& (2 : Int32)) = (0 : Int32))))), .val (.int (2 : Int32)), .val (.int mv), .val (.int nv), .val (.ref b225), .val (.int (own_b ((0 : Int32) < (((0 : Int32) + (1 : Int32)) + (1 : Int32))))), .val (.int (own_b ((own_pl ((0 : Int32) + mv) nv) < (own_ps ((0 : Int32) + mv) (((0 : Int32) + (1 : Int32)) + (1 : Int32)) nv))))] [(.int (own_b ((0 : Int32) < (((0 : Int32) + (1 : Int32)) + (1 : Int32)))))])) _
          refine XS.iconst X255.here hx rfl (hb hby at_171) ?_
          show Steps p.tables e below (T255.setTop (mkF m 172 #[.val (.int p0), .val (.int p1), .val (.int p2), .val (.int p3), .val (.int (1 : Int32)), .val (.int (own_b (¬ ((p0 &&& (2 : Int32)) = (0 : Int32))))), .val (.int (2 : Int32)), .val (.int mv), .val (.int nv), .val (.ref b225), .val (.int (own_b ((0 : Int32) < (((0 : Int32) + (1 : Int32)) + (1 : Int32))))), .val (.int (own_b ((own_pl ((0 : Int32) + mv) nv) < (own_ps ((0 : Int32) + mv) (((0 : Int32) + (1 : Int32)) + (1 : Int32)) nv))))] [(.int (1 : Int32)), (.int (own_b ((0 : Int32) < (((0 : Int32) + (1 : Int32)) + (1 : Int32)))))])) _
          refine XS.goto X255.here hx rfl (pc0 := 172) (pc' := 176) rfl (hb hby at_172) (by decide) (by decide) ?_
          show Steps p.tables e below (T255.setTop (mkF m 176 #[.val (.int p0), .val (.int p1), .val (.int p2), .val (.int p3), .val (.int (1 : Int32)), .val (.int (own_b (¬ ((p0 &&& (2 : Int32)) = (0 : Int32))))), .val (.int (2 : Int32)), .val (.int mv), .val (.int nv), .val (.ref b225), .val (.int (own_b ((0 : Int32) < (((0 : Int32) + (1 : Int32)) + (1 : Int32))))), .val (.int (own_b ((own_pl ((0 : Int32) + mv) nv) < (own_ps ((0 : Int32) + mv) (((0 : Int32) + (1 : Int32)) + (1 : Int32)) nv))))] [(.int (1 : Int32)), (.int (own_b ((0 : Int32) < (((0 : Int32) + (1 : Int32)) + (1 : Int32)))))])) _
          refine XS.icmpNo X255.here hx rfl (hb hby at_176) rfl (teq (by decide)).2 ?_
          show Steps p.tables e below (T255.setTop (mkF m 179 #[.val (.int p0), .val (.int p1), .val (.int p2), .val (.int p3), .val (.int (1 : Int32)), .val (.int (own_b (¬ ((p0 &&& (2 : Int32)) = (0 : Int32))))), .val (.int (2 : Int32)), .val (.int mv), .val (.int nv), .val (.ref b225), .val (.int (own_b ((0 : Int32) < (((0 : Int32) + (1 : Int32)) + (1 : Int32))))), .val (.int (own_b ((own_pl ((0 : Int32) + mv) nv) < (own_ps ((0 : Int32) + mv) (((0 : Int32) + (1 : Int32)) + (1 : Int32)) nv))))] [])) _
          refine XS.iload X255.here hx rfl (hb hby at_179) rfl  ?_
          show Steps p.tables e below (T255.setTop (mkF m 181 #[.val (.int p0), .val (.int p1), .val (.int p2), .val (.int p3), .val (.int (1 : Int32)), .val (.int (own_b (¬ ((p0 &&& (2 : Int32)) = (0 : Int32))))), .val (.int (2 : Int32)), .val (.int mv), .val (.int nv), .val (.ref b225), .val (.int (own_b ((0 : Int32) < (((0 : Int32) + (1 : Int32)) + (1 : Int32))))), .val (.int (own_b ((own_pl ((0 : Int32) + mv) nv) < (own_ps ((0 : Int32) + mv) (((0 : Int32) + (1 : Int32)) + (1 : Int32)) nv))))] [(.int (own_b ((own_pl ((0 : Int32) + mv) nv) < (own_ps ((0 : Int32) + mv) (((0 : Int32) + (1 : Int32)) + (1 : Int32)) nv))))])) _
          refine XS.iload X255.here hx rfl (hb hby at_181) rfl  ?_
          show Steps p.tables e below (T255.setTop (mkF m 183 #[.val (.int p0), .val (.int p1), .val (.int p2), .val (.int p3), .val (.int (1 : Int32)), .val (.int (own_b (¬ ((p0 &&& (2 : Int32)) = (0 : Int32))))), .val (.int (2 : Int32)), .val (.int mv), .val (.int nv), .val (.ref b225), .val (.int (own_b ((0 : Int32) < (((0 : Int32) + (1 : Int32)) + (1 : Int32))))), .val (.int (own_b ((own_pl ((0 : Int32) + mv) nv) < (own_ps ((0 : Int32) + mv) (((0 : Int32) + (1 : Int32)) + (1 : Int32)) nv))))] [(.int (2 : Int32)), (.int (own_b ((own_pl ((0 : Int32) + mv) nv) < (own_ps ((0 : Int32) + mv) (((0 : Int32) + (1 : Int32)) + (1 : Int32)) nv))))])) _
          refine XS.iload X255.here hx rfl (hb hby at_183) rfl  ?_
          show Steps p.tables e below (T255.setTop (mkF m 185 #[.val (.int p0), .val (.int p1), .val (.int p2), .val (.int p3), .val (.int (1 : Int32)), .val (.int (own_b (¬ ((p0 &&& (2 : Int32)) = (0 : Int32))))), .val (.int (2 : Int32)), .val (.int mv), .val (.int nv), .val (.ref b225), .val (.int (own_b ((0 : Int32) < (((0 : Int32) + (1 : Int32)) + (1 : Int32))))), .val (.int (own_b ((own_pl ((0 : Int32) + mv) nv) < (own_ps ((0 : Int32) + mv) (((0 : Int32) + (1 : Int32)) + (1 : Int32)) nv))))] [(.int mv), (.int (2 : Int32)), (.int (own_b ((own_pl ((0 : Int32) + mv) nv) < (own_ps ((0 : Int32) + mv) (((0 : Int32) + (1 : Int32)) + (1 : Int32)) nv))))])) _
          refine XS.isub X255.here hx rfl (hb hby at_185) rfl ?_
          show Steps p.tables e below (T255.setTop (mkF m 186 #[.val (.int p0), .val (.int p1), .val (.int p2), .val (.int p3), .val (.int (1 : Int32)), .val (.int (own_b (¬ ((p0 &&& (2 : Int32)) = (0 : Int32))))), .val (.int (2 : Int32)), .val (.int mv), .val (.int nv), .val (.ref b225), .val (.int (own_b ((0 : Int32) < (((0 : Int32) + (1 : Int32)) + (1 : Int32))))), .val (.int (own_b ((own_pl ((0 : Int32) + mv) nv) < (own_ps ((0 : Int32) + mv) (((0 : Int32) + (1 : Int32)) + (1 : Int32)) nv))))] [(.int ((2 : Int32) - mv)), (.int (own_b ((own_pl ((0 : Int32) + mv) nv) < (own_ps ((0 : Int32) + mv) (((0 : Int32) + (1 : Int32)) + (1 : Int32)) nv))))])) _
          refine XS.iload X255.here hx rfl (hb hby at_186) rfl  ?_
          show Steps p.tables e below (T255.setTop (mkF m 188 #[.val (.int p0), .val (.int p1), .val (.int p2), .val (.int p3), .val (.int (1 : Int32)), .val (.int (own_b (¬ ((p0 &&& (2 : Int32)) = (0 : Int32))))), .val (.int (2 : Int32)), .val (.int mv), .val (.int nv), .val (.ref b225), .val (.int (own_b ((0 : Int32) < (((0 : Int32) + (1 : Int32)) + (1 : Int32))))), .val (.int (own_b ((own_pl ((0 : Int32) + mv) nv) < (own_ps ((0 : Int32) + mv) (((0 : Int32) + (1 : Int32)) + (1 : Int32)) nv))))] [(.int nv), (.int ((2 : Int32) - mv)), (.int (own_b ((own_pl ((0 : Int32) + mv) nv) < (own_ps ((0 : Int32) + mv) (((0 : Int32) + (1 : Int32)) + (1 : Int32)) nv))))])) _
          refine XS.isub X255.here hx rfl (hb hby at_188) rfl ?_
          exact kZ)
        have pre258 : ∀ tZ, Steps p.tables e below (T255.setTop (mkF m 197 #[.val (.int p0), .val (.int p1), .val (.int p2), .val (.int p3), .val (.int (1 : Int32)), .val (.int (own_b (¬ ((p0 &&& (2 : Int32)) = (0 : Int32))))), .val (.int (2 : Int32)), .val (.int mv), .val (.int nv), .val (.ref b225), .val (.int (own_b ((0 : Int32) < (((0 : Int32) + (1 : Int32)) + (1 : Int32))))), .val (.int (own_b ((own_pl ((0 : Int32) + mv) nv) < (own_ps ((0 : Int32) + mv) (((0 : Int32) + (1 : Int32)) + (1 : Int32)) nv))))] [(.int (own_b ((0 : Int32) < (((2 : Int32) - mv) - nv)))), (.int (own_b ((own_pl ((0 : Int32) + mv) nv) < (own_ps ((0 : Int32) + mv) (((0 : Int32) + (1 : Int32)) + (1 : Int32)) nv))))])) tZ → Steps p.tables e below (s₁.setTop (entryFrame m #[(.int p0), (.int p1), (.int p2), (.int p3)] maxLocals)) tZ := fun tZ kZ => pre256 tZ (by
          by_cases hc257 : (0 : Int32) < (((2 : Int32) - mv) - nv)
          ·  -- yes
            show Steps p.tables e below (T255.setTop (mkF m 189 #[.val (.int p0), .val (.int p1), .val (.int p2), .val (.int p3), .val (.int (1 : Int32)), .val (.int (own_b (¬ ((p0 &&& (2 : Int32)) = (0 : Int32))))), .val (.int (2 : Int32)), .val (.int mv), .val (.int nv), .val (.ref b225), .val (.int (own_b ((0 : Int32) < (((0 : Int32) + (1 : Int32)) + (1 : Int32))))), .val (.int (own_b ((own_pl ((0 : Int32) + mv) nv) < (own_ps ((0 : Int32) + mv) (((0 : Int32) + (1 : Int32)) + (1 : Int32)) nv))))] [(.int (((2 : Int32) - mv) - nv)), (.int (own_b ((own_pl ((0 : Int32) + mv) nv) < (own_ps ((0 : Int32) + mv) (((0 : Int32) + (1 : Int32)) + (1 : Int32)) nv))))])) _
            refine XS.ifNo X255.here hx rfl (hb hby at_189) rfl ((if0 _ _).trans (tlt hc257).2.2.2) ?_
            show Steps p.tables e below (T255.setTop (mkF m 192 #[.val (.int p0), .val (.int p1), .val (.int p2), .val (.int p3), .val (.int (1 : Int32)), .val (.int (own_b (¬ ((p0 &&& (2 : Int32)) = (0 : Int32))))), .val (.int (2 : Int32)), .val (.int mv), .val (.int nv), .val (.ref b225), .val (.int (own_b ((0 : Int32) < (((0 : Int32) + (1 : Int32)) + (1 : Int32))))), .val (.int (own_b ((own_pl ((0 : Int32) + mv) nv) < (own_ps ((0 : Int32) + mv) (((0 : Int32) + (1 : Int32)) + (1 : Int32)) nv))))] [(.int (own_b ((own_pl ((0 : Int32) + mv) nv) < (own_ps ((0 : Int32) + mv) (((0 : Int32) + (1 : Int32)) + (1 : Int32)) nv))))])) _
            refine XS.iconst X255.here hx rfl (hb hby at_192) ?_
            show Steps p.tables e below (T255.setTop (mkF m 193 #[.val (.int p0), .val (.int p1), .val (.int p2), .val (.int p3), .val (.int (1 : Int32)), .val (.int (own_b (¬ ((p0 &&& (2 : Int32)) = (0 : Int32))))), .val (.int (2 : Int32)), .val (.int mv), .val (.int nv), .val (.ref b225), .val (.int (own_b ((0 : Int32) < (((0 : Int32) + (1 : Int32)) + (1 : Int32))))), .val (.int (own_b ((own_pl ((0 : Int32) + mv) nv) < (own_ps ((0 : Int32) + mv) (((0 : Int32) + (1 : Int32)) + (1 : Int32)) nv))))] [(.int (1 : Int32)), (.int (own_b ((own_pl ((0 : Int32) + mv) nv) < (own_ps ((0 : Int32) + mv) (((0 : Int32) + (1 : Int32)) + (1 : Int32)) nv))))])) _
            refine XS.goto X255.here hx rfl (pc0 := 193) (pc' := 197) rfl (hb hby at_193) (by decide) (by decide) ?_
            have ekZ : (own_b ((0 : Int32) < (((2 : Int32) - mv) - nv))) = (1 : Int32) := by first | (simp only [own_b, eq_true hc257, and_true, true_and, and_false, false_and, or_true, true_or, or_false, false_or, not_true_eq_false, not_false_eq_true, if_true, if_false, reduceIte]; done) | (simp [own_b, hc257]; done)
            rw [ekZ] at kZ
            exact kZ
          ·  -- no
            show Steps p.tables e below (T255.setTop (mkF m 189 #[.val (.int p0), .val (.int p1), .val (.int p2), .val (.int p3), .val (.int (1 : Int32)), .val (.int (own_b (¬ ((p0 &&& (2 : Int32)) = (0 : Int32))))), .val (.int (2 : Int32)), .val (.int mv), .val (.int nv), .val (.ref b225), .val (.int (own_b ((0 : Int32) < (((0 : Int32) + (1 : Int32)) + (1 : Int32))))), .val (.int (own_b ((own_pl ((0 : Int32) + mv) nv) < (own_ps ((0 : Int32) + mv) (((0 : Int32) + (1 : Int32)) + (1 : Int32)) nv))))] [(.int (((2 : Int32) - mv) - nv)), (.int (own_b ((own_pl ((0 : Int32) + mv) nv) < (own_ps ((0 : Int32) + mv) (((0 : Int32) + (1 : Int32)) + (1 : Int32)) nv))))])) _
            refine XS.ifYes X255.here hx rfl (pc0 := 189) (pc' := 196) rfl (hb hby at_189) rfl ((if0 _ _).trans (flt hc257).2.2.2) (by decide) (by decide) ?_
            show Steps p.tables e below (T255.setTop (mkF m 196 #[.val (.int p0), .val (.int p1), .val (.int p2), .val (.int p3), .val (.int (1 : Int32)), .val (.int (own_b (¬ ((p0 &&& (2 : Int32)) = (0 : Int32))))), .val (.int (2 : Int32)), .val (.int mv), .val (.int nv), .val (.ref b225), .val (.int (own_b ((0 : Int32) < (((0 : Int32) + (1 : Int32)) + (1 : Int32))))), .val (.int (own_b ((own_pl ((0 : Int32) + mv) nv) < (own_ps ((0 : Int32) + mv) (((0 : Int32) + (1 : Int32)) + (1 : Int32)) nv))))] [(.int (own_b ((own_pl ((0 : Int32) + mv) nv) < (own_ps ((0 : Int32) + mv) (((0 : Int32) + (1 : Int32)) + (1 : Int32)) nv))))])) _
            refine XS.iconst X255.here hx rfl (hb hby at_196) ?_
            have ekZ : (own_b ((0 : Int32) < (((2 : Int32) - mv) - nv))) = (0 : Int32) := by first | (simp only [own_b, eq_false hc257, and_true, true_and, and_false, false_and, or_true, true_or, or_false, false_or, not_true_eq_false, not_false_eq_true, if_true, if_false, reduceIte]; done) | (simp [own_b, hc257]; done)
            rw [ekZ] at kZ
            exact kZ)
        obtain ⟨fsZ, hrZ, hrun, hended, hW, hsame⟩ := X255.leave (v := some (.int (1 : Int32))) (fun h => by rw [Bd.returns] at h; cases h)
        refine ⟨_, _, pre258 _ ?_, hrun, hended, _, _, rfl, ?_, ⟨_, rfl⟩, hW, hsame.mono (by decide) (by decide)⟩
        · show Steps p.tables e below (T255.setTop (mkF m 197 #[.val (.int p0), .val (.int p1), .val (.int p2), .val (.int p3), .val (.int (1 : Int32)), .val (.int (own_b (¬ ((p0 &&& (2 : Int32)) = (0 : Int32))))), .val (.int (2 : Int32)), .val (.int mv), .val (.int nv), .val (.ref b225), .val (.int (own_b ((0 : Int32) < (((0 : Int32) + (1 : Int32)) + (1 : Int32))))), .val (.int (own_b ((own_pl ((0 : Int32) + mv) nv) < (own_ps ((0 : Int32) + mv) (((0 : Int32) + (1 : Int32)) + (1 : Int32)) nv))))] [(.int (own_b ((0 : Int32) < (((2 : Int32) - mv) - nv)))), (.int (own_b ((own_pl ((0 : Int32) + mv) nv) < (own_ps ((0 : Int32) + mv) (((0 : Int32) + (1 : Int32)) + (1 : Int32)) nv))))])) _
          refine XS.icmpNo X255.here hx rfl (hb hby at_197) rfl (teq (own_fin_m (by decide) hm4 hn4 hm3.2.2 hn3.2.2)).2 ?_
          show Steps p.tables e below (T255.setTop (mkF m 200 #[.val (.int p0), .val (.int p1), .val (.int p2), .val (.int p3), .val (.int (1 : Int32)), .val (.int (own_b (¬ ((p0 &&& (2 : Int32)) = (0 : Int32))))), .val (.int (2 : Int32)), .val (.int mv), .val (.int nv), .val (.ref b225), .val (.int (own_b ((0 : Int32) < (((0 : Int32) + (1 : Int32)) + (1 : Int32))))), .val (.int (own_b ((own_pl ((0 : Int32) + mv) nv) < (own_ps ((0 : Int32) + mv) (((0 : Int32) + (1 : Int32)) + (1 : Int32)) nv))))] [])) _
          refine XS.iconst X255.here hx rfl (hb hby at_200) ?_
          show Steps p.tables e below (T255.setTop (mkF m 201 #[.val (.int p0), .val (.int p1), .val (.int p2), .val (.int p3), .val (.int (1 : Int32)), .val (.int (own_b (¬ ((p0 &&& (2 : Int32)) = (0 : Int32))))), .val (.int (2 : Int32)), .val (.int mv), .val (.int nv), .val (.ref b225), .val (.int (own_b ((0 : Int32) < (((0 : Int32) + (1 : Int32)) + (1 : Int32))))), .val (.int (own_b ((own_pl ((0 : Int32) + mv) nv) < (own_ps ((0 : Int32) + mv) (((0 : Int32) + (1 : Int32)) + (1 : Int32)) nv))))] [(.int (1 : Int32))])) _
          refine XS.goto X255.here hx rfl (pc0 := 201) (pc' := 205) rfl (hb hby at_201) (by decide) (by decide) ?_
          show Steps p.tables e below (T255.setTop (mkF m 205 #[.val (.int p0), .val (.int p1), .val (.int p2), .val (.int p3), .val (.int (1 : Int32)), .val (.int (own_b (¬ ((p0 &&& (2 : Int32)) = (0 : Int32))))), .val (.int (2 : Int32)), .val (.int mv), .val (.int nv), .val (.ref b225), .val (.int (own_b ((0 : Int32) < (((0 : Int32) + (1 : Int32)) + (1 : Int32))))), .val (.int (own_b ((own_pl ((0 : Int32) + mv) nv) < (own_ps ((0 : Int32) + mv) (((0 : Int32) + (1 : Int32)) + (1 : Int32)) nv))))] [(.int (1 : Int32))])) _
          exact retN X255 hx (t := .boolean) Bd.returns (by simp) (hb hby at_205) hrZ
        · show Q0 Z p0 p1 p2 p3 h0 n0 _ T255.heap _
          rw [e255]
          exact ⟨rfl, N255⟩
    ·  -- a = 3
      obtain ⟨_, _, ⟨T259, L259, k259, n259⟩, -, X259, ⟨Lc259, hQ259, l259, y259, z259⟩, st259⟩ := Jvm.LawKit.callS X0 hx (y := (⟨"java/lang/Math", "min", "(II)I"⟩ : MethodName)) hown (mvT hZ (ow hw 1 rfl)) (mvT hZ (ow hw 2 rfl)) (mvT hZ (ow hw 3 rfl)) (mvT hZ (ow hw 4 rfl)) (by decide) (backOf (W := 0) (rm1 l Z a0 hw [] ((p2 &&& (2147483647 : Int32)) % (3 : Int32)) (3 : Int32) h0 n0 Z0 ) hZ (ow hw 4 rfl) (ow hw 3 rfl) (by decide) (by decide)) (g := (mkF m 39 #[.val (.int p0), .val (.int p1), .val (.int p2), .val (.int p3), .val (.int (1 : Int32)), .val (.int (own_b (¬ ((p0 &&& (2 : Int32)) = (0 : Int32))))), .val (.int (3 : Int32)), .unset, .unset, .unset, .unset, .unset] [(.int (3 : Int32)), (.int ((p2 &&& (2147483647 : Int32)) % (3 : Int32)))])) rfl (by rw [hml]; rfl) (argsL := [(.int ((p2 &&& (2147483647 : Int32)) % (3 : Int32))), (.int (3 : Int32))]) (rest := []) (lenOf pd6 rfl) rfl (by show 2 * 0 + _ ≤ _; exact Nat.le_of_eq rfl) (hb hby at_39) (fun _ _ => ⟨rfl, e0, (by decide : 0 + 0 ≤ _), (by decide : 0 + 0 ≤ _)⟩)
      dsimp only [Pt.U, Pt.locs, Pt.cells, Pt.slots] at X259 l259 y259 z259 st259 hQ259
      subst l259 y259 z259
      obtain ⟨rfl, N259q, e259⟩ := hQ259
      have N259 := Fr.app N0 N259q
      have pre260 : ∀ tZ, Steps p.tables e below (T259.setTop (mkF m 44 #[.val (.int p0), .val (.int p1), .val (.int p2), .val (.int p3), .val (.int (1 : Int32)), .val (.int (own_b (¬ ((p0 &&& (2 : Int32)) = (0 : Int32))))), .val (.int (3 : Int32)), .val (.int (if (3 : Int32) < ((p2 &&& (2147483647 : Int32)) % (3 : Int32)) then (3 : Int32) else ((p2 &&& (2147483647 : Int32)) % (3 : Int32)))), .unset, .unset, .unset, .unset] [])) tZ → Steps p.tables e below (s₁.setTop (entryFrame m #[(.int p0), (.int p1), (.int p2), (.int p3)] maxLocals)) tZ := fun tZ kZ => pre150 tZ (by
        show Steps p.tables e below (s₁.setTop (mkF m 31 #[.val (.int p0), .val (.int p1), .val (.int p2), .val (.int p3), .val (.int (1 : Int32)), .val (.int (own_b (¬ ((p0 &&& (2 : Int32)) = (0 : Int32))))), .val (.int (3 : Int32)), .unset, .unset, .unset, .unset, .unset] [])) _
        refine XS.iloadN X0.here hx rfl (hb hby at_31) rfl  ?_
        show Steps p.tables e below (s₁.setTop (mkF m 32 #[.val (.int p0), .val (.int p1), .val (.int p2), .val (.int p3), .val (.int (1 : Int32)), .val (.int (own_b (¬ ((p0 &&& (2 : Int32)) = (0 : Int32))))), .val (.int (3 : Int32)), .unset, .unset, .unset, .unset, .unset] [(.int p2)])) _
        refine X0.ldcInt hx hown (mvT hZ (ow hw 0 rfl)) (g := (mkF m 32 #[.val (.int p0), .val (.int p1), .val (.int p2), .val (.int p3), .val (.int (1 : Int32)), .val (.int (own_b (¬ ((p0 &&& (2 : Int32)) = (0 : Int32))))), .val (.int (3 : Int32)), .unset, .unset, .unset, .unset, .unset] [(.int p2)])) rfl (hb hby at_32) _ ?_
        show Steps p.tables e below (s₁.setTop (mkF m 34 #[.val (.int p0), .val (.int p1), .val (.int p2), .val (.int p3), .val (.int (1 : Int32)), .val (.int (own_b (¬ ((p0 &&& (2 : Int32)) = (0 : Int32))))), .val (.int (3 : Int32)), .unset, .unset, .unset, .unset, .unset] [(.int (2147483647 : Int32)), (.int p2)])) _
        refine XS.iand X0.here hx rfl (hb hby at_34) rfl ?_
        show Steps p.tables e below (s₁.setTop (mkF m 35 #[.val (.int p0), .val (.int p1), .val (.int p2), .val (.int p3), .val (.int (1 : Int32)), .val (.int (own_b (¬ ((p0 &&& (2 : Int32)) = (0 : Int32))))), .val (.int (3 : Int32)), .unset, .unset, .unset, .unset, .unset] [(.int (p2 &&& (2147483647 : Int32)))])) _
        refine XS.iconst X0.here hx rfl (hb hby at_35) ?_
        show Steps p.tables e below (s₁.setTop (mkF m 36 #[.val (.int p0), .val (.int p1), .val (.int p2), .val (.int p3), .val (.int (1 : Int32)), .val (.int (own_b (¬ ((p0 &&& (2 : Int32)) = (0 : Int32))))), .val (.int (3 : Int32)), .unset, .unset, .unset, .unset, .unset] [(.int (3 : Int32)), (.int (p2 &&& (2147483647 : Int32)))])) _
        refine iremM X0 hx rfl (hb hby at_36) rfl (by decide) ?_
        show Steps p.tables e below (s₁.setTop (mkF m 37 #[.val (.int p0), .val (.int p1), .val (.int p2), .val (.int p3), .val (.int (1 : Int32)), .val (.int (own_b (¬ ((p0 &&& (2 : Int32)) = (0 : Int32))))), .val (.int (3 : Int32)), .unset, .unset, .unset, .unset, .unset] [(.int ((p2 &&& (2147483647 : Int32)) % (3 : Int32)))])) _
        refine XS.iload X0.here hx rfl (hb hby at_37) rfl  ?_
        show Steps p.tables e below (s₁.setTop (mkF m 39 #[.val (.int p0), .val (.int p1), .val (.int p2), .val (.int p3), .val (.int (1 : Int32)), .val (.int (own_b (¬ ((p0 &&& (2 : Int32)) = (0 : Int32))))), .val (.int (3 : Int32)), .unset, .unset, .unset, .unset, .unset] [(.int (3 : Int32)), (.int ((p2 &&& (2147483647 : Int32)) % (3 : Int32)))])) _
        refine st259 _ ?_
        show Steps p.tables e below (T259.setTop (mkF m 42 #[.val (.int p0), .val (.int p1), .val (.int p2), .val (.int p3), .val (.int (1 : Int32)), .val (.int (own_b (¬ ((p0 &&& (2 : Int32)) = (0 : Int32))))), .val (.int (3 : Int32)), .unset, .unset, .unset, .unset, .unset] [(.int (if (3 : Int32) < ((p2 &&& (2147483647 : Int32)) % (3 : Int32)) then (3 : Int32) else ((p2 &&& (2147483647 : Int32)) % (3 : Int32))))])) _
        refine XS.istore X259.here hx rfl (hb hby at_42) rfl (l' := #[.val (.int p0), .val (.int p1), .val (.int p2), .val (.int p3), .val (.int (1 : Int32)), .val (.int (own_b (¬ ((p0 &&& (2 : Int32)) = (0 : Int32))))), .val (.int (3 : Int32)), .val (.int (if (3 : Int32) < ((p2 &&& (2147483647 : Int32)) % (3 : Int32)) then (3 : Int32) else ((p2 &&& (2147483647 : Int32)) % (3 : Int32)))), .unset, .unset, .unset, .unset]) rfl ?_
        exact kZ)
      obtain ⟨mv, hmv⟩ : ∃ z, z = (if (3 : Int32) < ((p2 &&& (2147483647 : Int32)) % (3 : Int32)) then (3 : Int32) else ((p2 &&& (2147483647 : Int32)) % (3 : Int32))) := ⟨_, rfl⟩
      rw [← hmv] at pre260
      have hm3 := own_min hmv (own_rem p2) (by decide)
      have hm4 := own_c3 hm3.1 hm3.2.1
      obtain ⟨_, _, ⟨T261, L261, k261, n261⟩, -, X261, ⟨Lc261, hQ261, l261, y261, z261⟩, st261⟩ := Jvm.LawKit.callS X259 hx (y := (⟨"java/lang/Math", "min", "(II)I"⟩ : MethodName)) hown (mvT hZ (ow hw 1 rfl)) (mvT hZ (ow hw 2 rfl)) (mvT hZ (ow hw 3 rfl)) (mvT hZ (ow hw 4 rfl)) (by decide) (backOf (W := 0) (rm1 l Z a0 hw [] ((p3 &&& (2147483647 : Int32)) % (3 : Int32)) ((3 : Int32) - mv) h0 n0 Z0 ) hZ (ow hw 4 rfl) (ow hw 3 rfl) (by decide) (by decide)) (g := (mkF m 55 #[.val (.int p0), .val (.int p1), .val (.int p2), .val (.int p3), .val (.int (1 : Int32)), .val (.int (own_b (¬ ((p0 &&& (2 : Int32)) = (0 : Int32))))), .val (.int (3 : Int32)), .val (.int mv), .unset, .unset, .unset, .unset] [(.int ((3 : Int32) - mv)), (.int ((p3 &&& (2147483647 : Int32)) % (3 : Int32)))])) rfl (by rw [hml]; rfl) (argsL := [(.int ((p3 &&& (2147483647 : Int32)) % (3 : Int32))), (.int ((3 : Int32) - mv))]) (rest := []) (lenOf pd6 rfl) rfl (by show 2 * 0 + _ ≤ _; exact Nat.le_of_eq rfl) (hb hby at_55) (fun _ _ => ⟨rfl, e259, (by decide : 0 + 0 ≤ _), (by decide : 0 + 0 ≤ _)⟩)
      dsimp only [Pt.U, Pt.locs, Pt.cells, Pt.slots] at X261 l261 y261 z261 st261 hQ261
      subst l261 y261 z261
      obtain ⟨rfl, N261q, e261⟩ := hQ261
      have N261 := Fr.app N259 N261q
      have pre262 : ∀ tZ, Steps p.tables e below (T261.setTop (mkF m 60 #[.val (.int p0), .val (.int p1), .val (.int p2), .val (.int p3), .val (.int (1 : Int32)), .val (.int (own_b (¬ ((p0 &&& (2 : Int32)) = (0 : Int32))))), .val (.int (3 : Int32)), .val (.int mv), .val (.int (if ((3 : Int32) - mv) < ((p3 &&& (2147483647 : Int32)) % (3 : Int32)) then ((3 : Int32) - mv) else ((p3 &&& (2147483647 : Int32)) % (3 : Int32)))), .unset, .unset, .unset] [])) tZ → Steps p.tables e below (s₁.setTop (entryFrame m #[(.int p0), (.int p1), (.int p2), (.int p3)] maxLocals)) tZ := fun tZ kZ => pre260 tZ (by
        show Steps p.tables e below (T259.setTop (mkF m 44 #[.val (.int p0), .val (.int p1), .val (.int p2), .val (.int p3), .val (.int (1 : Int32)), .val (.int (own_b (¬ ((p0 &&& (2 : Int32)) = (0 : Int32))))), .val (.int (3 : Int32)), .val (.int mv), .unset, .unset, .unset, .unset] [])) _
        refine XS.iloadN X259.here hx rfl (hb hby at_44) rfl  ?_
        show Steps p.tables e below (T259.setTop (mkF m 45 #[.val (.int p0), .val (.int p1), .val (.int p2), .val (.int p3), .val (.int (1 : Int32)), .val (.int (own_b (¬ ((p0 &&& (2 : Int32)) = (0 : Int32))))), .val (.int (3 : Int32)), .val (.int mv), .unset, .unset, .unset, .unset] [(.int p3)])) _
        refine X259.ldcInt hx hown (mvT hZ (ow hw 0 rfl)) (g := (mkF m 45 #[.val (.int p0), .val (.int p1), .val (.int p2), .val (.int p3), .val (.int (1 : Int32)), .val (.int (own_b (¬ ((p0 &&& (2 : Int32)) = (0 : Int32))))), .val (.int (3 : Int32)), .val (.int mv), .unset, .unset, .unset, .unset] [(.int p3)])) rfl (hb hby at_45) _ ?_
        show Steps p.tables e below (T259.setTop (mkF m 47 #[.val (.int p0), .val (.int p1), .val (.int p2), .val (.int p3), .val (.int (1 : Int32)), .val (.int (own_b (¬ ((p0 &&& (2 : Int32)) = (0 : Int32))))), .val (.int (3 : Int32)), .val (.int mv), .unset, .unset, .unset, .unset] [(.int (2147483647 : Int32)), (.int p3)])) _
        refine XS.iand X259.here hx rfl (hb hby at_47) rfl ?_
        show Steps p.tables e below (T259.setTop (mkF m 48 #[.val (.int p0), .val (.int p1), .val (.int p2), .val (.int p3), .val (.int (1 : Int32)), .val (.int (own_b (¬ ((p0 &&& (2 : Int32)) = (0 : Int32))))), .val (.int (3 : Int32)), .val (.int mv), .unset, .unset, .unset, .unset] [(.int (p3 &&& (2147483647 : Int32)))])) _
        refine XS.iconst X259.here hx rfl (hb hby at_48) ?_
        show Steps p.tables e below (T259.setTop (mkF m 49 #[.val (.int p0), .val (.int p1), .val (.int p2), .val (.int p3), .val (.int (1 : Int32)), .val (.int (own_b (¬ ((p0 &&& (2 : Int32)) = (0 : Int32))))), .val (.int (3 : Int32)), .val (.int mv), .unset, .unset, .unset, .unset] [(.int (3 : Int32)), (.int (p3 &&& (2147483647 : Int32)))])) _
        refine iremM X259 hx rfl (hb hby at_49) rfl (by decide) ?_
        show Steps p.tables e below (T259.setTop (mkF m 50 #[.val (.int p0), .val (.int p1), .val (.int p2), .val (.int p3), .val (.int (1 : Int32)), .val (.int (own_b (¬ ((p0 &&& (2 : Int32)) = (0 : Int32))))), .val (.int (3 : Int32)), .val (.int mv), .unset, .unset, .unset, .unset] [(.int ((p3 &&& (2147483647 : Int32)) % (3 : Int32)))])) _
        refine XS.iload X259.here hx rfl (hb hby at_50) rfl  ?_
        show Steps p.tables e below (T259.setTop (mkF m 52 #[.val (.int p0), .val (.int p1), .val (.int p2), .val (.int p3), .val (.int (1 : Int32)), .val (.int (own_b (¬ ((p0 &&& (2 : Int32)) = (0 : Int32))))), .val (.int (3 : Int32)), .val (.int mv), .unset, .unset, .unset, .unset] [(.int (3 : Int32)), (.int ((p3 &&& (2147483647 : Int32)) % (3 : Int32)))])) _
        refine XS.iload X259.here hx rfl (hb hby at_52) rfl  ?_
        show Steps p.tables e below (T259.setTop (mkF m 54 #[.val (.int p0), .val (.int p1), .val (.int p2), .val (.int p3), .val (.int (1 : Int32)), .val (.int (own_b (¬ ((p0 &&& (2 : Int32)) = (0 : Int32))))), .val (.int (3 : Int32)), .val (.int mv), .unset, .unset, .unset, .unset] [(.int mv), (.int (3 : Int32)), (.int ((p3 &&& (2147483647 : Int32)) % (3 : Int32)))])) _
        refine XS.isub X259.here hx rfl (hb hby at_54) rfl ?_
        show Steps p.tables e below (T259.setTop (mkF m 55 #[.val (.int p0), .val (.int p1), .val (.int p2), .val (.int p3), .val (.int (1 : Int32)), .val (.int (own_b (¬ ((p0 &&& (2 : Int32)) = (0 : Int32))))), .val (.int (3 : Int32)), .val (.int mv), .unset, .unset, .unset, .unset] [(.int ((3 : Int32) - mv)), (.int ((p3 &&& (2147483647 : Int32)) % (3 : Int32)))])) _
        refine st261 _ ?_
        show Steps p.tables e below (T261.setTop (mkF m 58 #[.val (.int p0), .val (.int p1), .val (.int p2), .val (.int p3), .val (.int (1 : Int32)), .val (.int (own_b (¬ ((p0 &&& (2 : Int32)) = (0 : Int32))))), .val (.int (3 : Int32)), .val (.int mv), .unset, .unset, .unset, .unset] [(.int (if ((3 : Int32) - mv) < ((p3 &&& (2147483647 : Int32)) % (3 : Int32)) then ((3 : Int32) - mv) else ((p3 &&& (2147483647 : Int32)) % (3 : Int32))))])) _
        refine XS.istore X261.here hx rfl (hb hby at_58) rfl (l' := #[.val (.int p0), .val (.int p1), .val (.int p2), .val (.int p3), .val (.int (1 : Int32)), .val (.int (own_b (¬ ((p0 &&& (2 : Int32)) = (0 : Int32))))), .val (.int (3 : Int32)), .val (.int mv), .val (.int (if ((3 : Int32) - mv) < ((p3 &&& (2147483647 : Int32)) % (3 : Int32)) then ((3 : Int32) - mv) else ((p3 &&& (2147483647 : Int32)) % (3 : Int32)))), .unset, .unset, .unset]) rfl ?_
        exact kZ)
      obtain ⟨nv, hnv⟩ : ∃ z, z = (if ((3 : Int32) - mv) < ((p3 &&& (2147483647 : Int32)) % (3 : Int32)) then ((3 : Int32) - mv) else ((p3 &&& (2147483647 : Int32)) % (3 : Int32))) := ⟨_, rfl⟩
      rw [← hnv] at pre262
      have hn3 := own_min hnv (own_rem p3) (own_nn hm4 hm3.2.2 (by decide))
      have hn4 := own_c3 hn3.1 hn3.2.1
      obtain ⟨T263, h263, X263, e263, E263, A263, D263, -, st263⟩ := newO X261 hx hZ hown (ow hw 5 rfl) (ow hw 6 rfl) (ow hw 7 rfl) e261 (g := (mkF m 60 #[.val (.int p0), .val (.int p1), .val (.int p2), .val (.int p3), .val (.int (1 : Int32)), .val (.int (own_b (¬ ((p0 &&& (2 : Int32)) = (0 : Int32))))), .val (.int (3 : Int32)), .val (.int mv), .val (.int nv), .unset, .unset, .unset] [])) rfl (hb hby at_60) (by decide) (by decide)
      obtain ⟨b263, g263⟩ : ∃ z, z = h0.size := ⟨_, rfl⟩
      rw [← g263] at A263 D263 st263
      have gn_b263 : n0 ≤ b263 := Nat.le_trans Z0 (Nat.le_of_eq g263.symm)
      have Z264 : n0 ≤ h263.size := Nat.le_trans Z0 E263.1
      have F__tasks_b263 : Fld Z h263 b263 oR "_tasks" "[Lcom/example/portunus/portunus/policy/WaitingTask;" .null := D263 (Or.inl (ow hw 20 rfl)) (ty := (.array (.object oW))) (by decide)
      have F__mayBeLostAfterUs_b263 : Fld Z h263 b263 oR "_mayBeLostAfterUs" "[D" .null := D263 (Or.inl (ow hw 22 rfl)) (ty := (.array .double)) (by decide)
      have F__size_b263 : Fld Z h263 b263 oR "_size" "I" (.int (0 : Int32)) := D263 (Or.inl (ow hw 29 rfl)) (ty := .int) (by decide)
      have F__first_b263 : Fld Z h263 b263 oR "_first" "I" (.int (0 : Int32)) := D263 (Or.inl (ow hw 35 rfl)) (ty := .int) (by decide)
      have F__lostSlots_b263 : Fld Z h263 b263 oR "_lostSlots" "I" (.int (0 : Int32)) := D263 (Or.inl (ow hw 44 rfl)) (ty := .int) (by decide)
      obtain ⟨_, _, ⟨T265, L265, k265, n265⟩, -, X265, ⟨Lc265, hQ265, l265, y265, z265⟩, st265⟩ := X263.specialBack hx (y := (⟨oR, "<init>", "(Z)V"⟩ : MethodName)) rfl hown (mvT hZ (ow hw 8 rfl)) (mvT hZ (ow hw 9 rfl)) (mvT hZ (ow hw 10 rfl)) (by decide) (backOf (W := 1) (rm2d l Z a0 hw [] b263 .null .null h263 n0 Z264 A263 F__tasks_b263 F__mayBeLostAfterUs_b263 F__size_b263 F__lostSlots_b263 F__first_b263 gn_b263) hZ (ow hw 10 rfl) (ow hw 7 rfl) (by decide) (by decide)) (g := (mkF m 66 #[.val (.int p0), .val (.int p1), .val (.int p2), .val (.int p3), .val (.int (1 : Int32)), .val (.int (own_b (¬ ((p0 &&& (2 : Int32)) = (0 : Int32))))), .val (.int (3 : Int32)), .val (.int mv), .val (.int nv), .unset, .unset, .unset] [(.int (1 : Int32)), (.ref b263), (.ref b263)])) rfl (by rw [hml]; rfl) (Steps.refl _) (a := b263) (argsL := [(.int (1 : Int32))]) (rest := [(.ref b263)]) (lenOf pd7 rfl) rfl (by show 2 * 0 + _ ≤ _; exact Nat.le_of_eq rfl) (hb hby at_66) (fun _ _ => ⟨rfl, e263, (by decide : 1 + 2 ≤ _), (by decide : 5 + 16 ≤ _)⟩)
      dsimp only [Pt.U, Pt.locs, Pt.cells, Pt.slots] at X265 l265 y265 z265 st265 hQ265
      subst l265 y265 z265
      obtain ⟨tk_266, kt_267, dd_268, rfl, N265q, K265, u265_0, u265_1, u265_2, u265_3, u265_4, f265_0, f265_1, f265_2, f265_3, f265_4, f265_5, f265_6, f265_7⟩ := hQ265
      have N265 := Fr.app N261 N265q
      have Z269 : n0 ≤ T265.heap.size := Nat.le_trans Z264 K265.1
      have ne270 : b263 ≠ tk_266 := Nat.ne_of_lt (Nat.lt_of_lt_of_le A263.lt u265_1)
      have ne271 : b263 ≠ dd_268 := Nat.ne_of_lt (Nat.lt_of_lt_of_le A263.lt u265_3)
      obtain ⟨cq272, kq272, q272a, q272b, q272c⟩ := isOf hZ rfl f265_0
      obtain ⟨_, _, ⟨T272, L272, k272, n272⟩, -, X272, ⟨Lc272, hQ272, l272, y272, z272⟩, st272⟩ := X265.virtualBack hx (y := (⟨oR, "addLast", "(Lcom/example/portunus/portunus/policy/WaitingTask;D)V"⟩ : MethodName)) (z := (⟨oR, "addLast", "(Lcom/example/portunus/portunus/policy/WaitingTask;D)V"⟩ : MethodName)) hown (mvT hZ (ow hw 23 rfl)) (mvT hZ (ow hw 24 rfl)) (notFace_of_selects (args := #[]) (mvT hZ (ow hw 26 rfl))) (mvT hZ (ow hw 26 rfl)) (mvT hZ (ow hw 25 rfl)) (by decide) (backOf (W := 0) (rm5d l Z a0 hw [] b263 Jvm.FP.dconst1 tk_266 (0 : Int32) (0 : Int32) (0 : Int32) kt_267 dd_268 T265.heap n0 Z269 f265_0 f265_1 f265_2 f265_3 f265_4 f265_5 f265_6 gn_b263 u265_0 ne270 f265_7 u265_2 ne271 u265_4 (by first | assumption | decide | omega)) hZ (ow hw 27 rfl) (ow hw 7 rfl) (by decide) (by decide)) q272a q272c (g := (mkF m 81 #[.val (.int p0), .val (.int p1), .val (.int p2), .val (.int p3), .val (.int (1 : Int32)), .val (.int (own_b (¬ ((p0 &&& (2 : Int32)) = (0 : Int32))))), .val (.int (3 : Int32)), .val (.int mv), .val (.int nv), .val (.ref b263), .unset, .unset] [(.double Jvm.FP.dconst1), .null, (.ref b263)])) rfl (by rw [hml]; rfl) (Steps.refl _) (argsL := [.null, (.double Jvm.FP.dconst1)]) (rest := []) (lenOf pd10 rfl) rfl (by show 2 * 0 + _ ≤ _; exact Nat.le_of_eq rfl) (hb hby at_81) (fun _ _ => ⟨rfl, rfl, (by decide : 3 + 0 ≤ _), (by decide : 21 + 0 ≤ _)⟩)
      dsimp only [Pt.U, Pt.locs, Pt.cells, Pt.slots] at X272 l272 y272 z272 st272 hQ272
      subst l272 y272 z272
      obtain ⟨rfl, N272q, K272, f272_0, f272_1, f272_2, f272_3, f272_4, f272_5, f272_6, f272_7⟩ := hQ272
      have N272 := Fr.app N265 N272q
      have Z273 : n0 ≤ T272.heap.size := Nat.le_trans Z269 K272.1
      obtain ⟨cq274, kq274, q274a, q274b, q274c⟩ := isOf hZ rfl f272_0
      obtain ⟨_, _, ⟨T274, L274, k274, n274⟩, -, X274, ⟨Lc274, hQ274, l274, y274, z274⟩, st274⟩ := X272.virtualBack hx (y := (⟨oR, "addLast", "(Lcom/example/portunus/portunus/policy/WaitingTask;D)V"⟩ : MethodName)) (z := (⟨oR, "addLast", "(Lcom/example/portunus/portunus/policy/WaitingTask;D)V"⟩ : MethodName)) hown (mvT hZ (ow hw 23 rfl)) (mvT hZ (ow hw 24 rfl)) (notFace_of_selects (args := #[]) (mvT hZ (ow hw 26 rfl))) (mvT hZ (ow hw 26 rfl)) (mvT hZ (ow hw 25 rfl)) (by decide) (backOf (W := 0) (rm5d l Z a0 hw [] b263 (4611686018427387904 : UInt64) tk_266 ((0 : Int32) + (1 : Int32)) (0 : Int32) (0 : Int32) kt_267 dd_268 T272.heap n0 Z273 f272_0 f272_1 f272_2 f272_3 f272_4 f272_5 f272_6 gn_b263 u265_0 ne270 f272_7 u265_2 ne271 u265_4 (by first | assumption | decide | omega)) hZ (ow hw 27 rfl) (ow hw 7 rfl) (by decide) (by decide)) q274a q274c (g := (mkF m 96 #[.val (.int p0), .val (.int p1), .val (.int p2), .val (.int p3), .val (.int (1 : Int32)), .val (.int (own_b (¬ ((p0 &&& (2 : Int32)) = (0 : Int32))))), .val (.int (3 : Int32)), .val (.int mv), .val (.int nv), .val (.ref b263), .unset, .unset] [(.double (4611686018427387904 : UInt64)), .null, (.ref b263)])) rfl (by rw [hml]; rfl) (Steps.refl _) (argsL := [.null, (.double (4611686018427387904 : UInt64))]) (rest := []) (lenOf pd10 rfl) rfl (by show 2 * 0 + _ ≤ _; exact Nat.le_of_eq rfl) (hb hby at_96) (fun _ _ => ⟨rfl, rfl, (by decide : 3 + 0 ≤ _), (by decide : 21 + 0 ≤ _)⟩)
      dsimp only [Pt.U, Pt.locs, Pt.cells, Pt.slots] at X274 l274 y274 z274 st274 hQ274
      subst l274 y274 z274
      obtain ⟨rfl, N274q, K274, f274_0, f274_1, f274_2, f274_3, f274_4, f274_5, f274_6, f274_7⟩ := hQ274
      have N274 := Fr.app N272 N274q
      have Z275 : n0 ≤ T274.heap.size := Nat.le_trans Z273 K274.1
      obtain ⟨cq276, kq276, q276a, q276b, q276c⟩ := isOf hZ rfl f274_0
      obtain ⟨_, _, ⟨T276, L276, k276, n276⟩, -, X276, ⟨Lc276, hQ276, l276, y276, z276⟩, st276⟩ := X274.virtualBack hx (y := (⟨oR, "addLast", "(Lcom/example/portunus/portunus/policy/WaitingTask;D)V"⟩ : MethodName)) (z := (⟨oR, "addLast", "(Lcom/example/portunus/portunus/policy/WaitingTask;D)V"⟩ : MethodName)) hown (mvT hZ (ow hw 23 rfl)) (mvT hZ (ow hw 24 rfl)) (notFace_of_selects (args := #[]) (mvT hZ (ow hw 26 rfl))) (mvT hZ (ow hw 26 rfl)) (mvT hZ (ow hw 25 rfl)) (by decide) (backOf (W := 0) (rm5d l Z a0 hw [] b263 (4613937818241073152 : UInt64) tk_266 (((0 : Int32) + (1 : Int32)) + (1 : Int32)) (0 : Int32) (0 : Int32) kt_267 dd_268 T274.heap n0 Z275 f274_0 f274_1 f274_2 f274_3 f274_4 f274_5 f274_6 gn_b263 u265_0 ne270 f274_7 u265_2 ne271 u265_4 (by first | assumption | decide | omega)) hZ (ow hw 27 rfl) (ow hw 7 rfl) (by decide) (by decide)) q276a q276c (g := (mkF m 111 #[.val (.int p0), .val (.int p1), .val (.int p2), .val (.int p3), .val (.int (1 : Int32)), .val (.int (own_b (¬ ((p0 &&& (2 : Int32)) = (0 : Int32))))), .val (.int (3 : Int32)), .val (.int mv), .val (.int nv), .val (.ref b263), .unset, .unset] [(.double (4613937818241073152 : UInt64)), .null, (.ref b263)])) rfl (by rw [hml]; rfl) (Steps.refl _) (argsL := [.null, (.double (4613937818241073152 : UInt64))]) (rest := []) (lenOf pd10 rfl) rfl (by show 2 * 0 + _ ≤ _; exact Nat.le_of_eq rfl) (hb hby at_111) (fun _ _ => ⟨rfl, rfl, (by decide : 3 + 0 ≤ _), (by decide : 21 + 0 ≤ _)⟩)
      dsimp only [Pt.U, Pt.locs, Pt.cells, Pt.slots] at X276 l276 y276 z276 st276 hQ276
      subst l276 y276 z276
      obtain ⟨rfl, N276q, K276, f276_0, f276_1, f276_2, f276_3, f276_4, f276_5, f276_6, f276_7⟩ := hQ276
      have N276 := Fr.app N274 N276q
      have Z277 : n0 ≤ T276.heap.size := Nat.le_trans Z275 K276.1
      obtain ⟨cq278, kq278, q278a, q278b, q278c⟩ := isOf hZ rfl f276_0
      obtain ⟨_, _, ⟨T278, L278, k278, n278⟩, -, X278, ⟨Lc278, hQ278, l278, y278, z278⟩, st278⟩ := X276.virtualBack hx (y := (⟨oR, "hasOther", "()Z"⟩ : MethodName)) (z := (⟨oR, "hasOther", "()Z"⟩ : MethodName)) hown (mvT hZ (ow hw 38 rfl)) (mvT hZ (ow hw 39 rfl)) (notFace_of_selects (args := #[]) (mvT hZ (ow hw 41 rfl))) (mvT hZ (ow hw 41 rfl)) (mvT hZ (ow hw 40 rfl)) (by decide) (backOf (W := 0) (rm7 l Z a0 hw [] b263 ((((0 : Int32) + (1 : Int32)) + (1 : Int32)) + (1 : Int32)) (0 : Int32) T276.heap n0 Z277 f276_3 f276_4) hZ (ow hw 42 rfl) (ow hw 7 rfl) (by decide) (by decide)) q278a q278c (g := (mkF m 116 #[.val (.int p0), .val (.int p1), .val (.int p2), .val (.int p3), .val (.int (1 : Int32)), .val (.int (own_b (¬ ((p0 &&& (2 : Int32)) = (0 : Int32))))), .val (.int (3 : Int32)), .val (.int mv), .val (.int nv), .val (.ref b263), .unset, .unset] [(.ref b263)])) rfl (by rw [hml]; rfl) (Steps.refl _) (argsL := []) (rest := []) (lenOf pd8 rfl) rfl (by show 2 * 0 + _ ≤ _; exact Nat.le_of_eq rfl) (hb hby at_116) (fun _ _ => ⟨rfl, rfl, (by decide : 3 + 0 ≤ _), (by decide : 21 + 0 ≤ _)⟩)
      dsimp only [Pt.U, Pt.locs, Pt.cells, Pt.slots] at X278 l278 y278 z278 st278 hQ278
      subst l278 y278 z278
      obtain ⟨rfl, N278q, e278⟩ := hQ278
      have N278 := Fr.app N276 N278q
      have pre279 : ∀ tZ, Steps p.tables e below (T278.setTop (mkF m 123 #[.val (.int p0), .val (.int p1), .val (.int p2), .val (.int p3), .val (.int (1 : Int32)), .val (.int (own_b (¬ ((p0 &&& (2 : Int32)) = (0 : Int32))))), .val (.int (3 : Int32)), .val (.int mv), .val (.int nv), .val (.ref b263), .val (.int (own_b ((0 : Int32) < ((((0 : Int32) + (1 : Int32)) + (1 : Int32)) + (1 : Int32))))), .unset] [(.int (own_b (¬ ((p0 &&& (2 : Int32)) = (0 : Int32)))))])) tZ → Steps p.tables e below (s₁.setTop (entryFrame m #[(.int p0), (.int p1), (.int p2), (.int p3)] maxLocals)) tZ := fun tZ kZ => pre262 tZ (by
        show Steps p.tables e below (T261.setTop (mkF m 60 #[.val (.int p0), .val (.int p1), .val (.int p2), .val (.int p3), .val (.int (1 : Int32)), .val (.int (own_b (¬ ((p0 &&& (2 : Int32)) = (0 : Int32))))), .val (.int (3 : Int32)), .val (.int mv), .val (.int nv), .unset, .unset, .unset] [])) _
        refine st263 _ ?_
        show Steps p.tables e below (T263.setTop (mkF m 63 #[.val (.int p0), .val (.int p1), .val (.int p2), .val (.int p3), .val (.int (1 : Int32)), .val (.int (own_b (¬ ((p0 &&& (2 : Int32)) = (0 : Int32))))), .val (.int (3 : Int32)), .val (.int mv), .val (.int nv), .unset, .unset, .unset] [(.ref b263)])) _
        refine XS.dup X263.here hx rfl (hb hby at_63) rfl rfl ?_
        show Steps p.tables e below (T263.setTop (mkF m 64 #[.val (.int p0), .val (.int p1), .val (.int p2), .val (.int p3), .val (.int (1 : Int32)), .val (.int (own_b (¬ ((p0 &&& (2 : Int32)) = (0 : Int32))))), .val (.int (3 : Int32)), .val (.int mv), .val (.int nv), .unset, .unset, .unset] [(.ref b263), (.ref b263)])) _
        refine XS.iload X263.here hx rfl (hb hby at_64) rfl  ?_
        show Steps p.tables e below (T263.setTop (mkF m 66 #[.val (.int p0), .val (.int p1), .val (.int p2), .val (.int p3), .val (.int (1 : Int32)), .val (.int (own_b (¬ ((p0 &&& (2 : Int32)) = (0 : Int32))))), .val (.int (3 : Int32)), .val (.int mv), .val (.int nv), .unset, .unset, .unset] [(.int (1 : Int32)), (.ref b263), (.ref b263)])) _
        refine st265.trans ?_
        show Steps p.tables e below (T265.setTop (mkF m 69 #[.val (.int p0), .val (.int p1), .val (.int p2), .val (.int p3), .val (.int (1 : Int32)), .val (.int (own_b (¬ ((p0 &&& (2 : Int32)) = (0 : Int32))))), .val (.int (3 : Int32)), .val (.int mv), .val (.int nv), .unset, .unset, .unset] [(.ref b263)])) _
        refine XS.astore X265.here hx rfl (hb hby at_69) rfl rfl (l' := #[.val (.int p0), .val (.int p1), .val (.int p2), .val (.int p3), .val (.int (1 : Int32)), .val (.int (own_b (¬ ((p0 &&& (2 : Int32)) = (0 : Int32))))), .val (.int (3 : Int32)), .val (.int mv), .val (.int nv), .val (.ref b263), .unset, .unset]) rfl ?_
        show Steps p.tables e below (T265.setTop (mkF m 71 #[.val (.int p0), .val (.int p1), .val (.int p2), .val (.int p3), .val (.int (1 : Int32)), .val (.int (own_b (¬ ((p0 &&& (2 : Int32)) = (0 : Int32))))), .val (.int (3 : Int32)), .val (.int mv), .val (.int nv), .val (.ref b263), .unset, .unset] [])) _
        refine XS.iload X265.here hx rfl (hb hby at_71) rfl  ?_
        show Steps p.tables e below (T265.setTop (mkF m 73 #[.val (.int p0), .val (.int p1), .val (.int p2), .val (.int p3), .val (.int (1 : Int32)), .val (.int (own_b (¬ ((p0 &&& (2 : Int32)) = (0 : Int32))))), .val (.int (3 : Int32)), .val (.int mv), .val (.int nv), .val (.ref b263), .unset, .unset] [(.int (3 : Int32))])) _
        refine XS.iconst X265.here hx rfl (hb hby at_73) ?_
        show Steps p.tables e below (T265.setTop (mkF m 74 #[.val (.int p0), .val (.int p1), .val (.int p2), .val (.int p3), .val (.int (1 : Int32)), .val (.int (own_b (¬ ((p0 &&& (2 : Int32)) = (0 : Int32))))), .val (.int (3 : Int32)), .val (.int mv), .val (.int nv), .val (.ref b263), .unset, .unset] [(.int (1 : Int32)), (.int (3 : Int32))])) _
        refine XS.icmpNo X265.here hx rfl (hb hby at_74) rfl (flt (by decide)).1 ?_
        show Steps p.tables e below (T265.setTop (mkF m 77 #[.val (.int p0), .val (.int p1), .val (.int p2), .val (.int p3), .val (.int (1 : Int32)), .val (.int (own_b (¬ ((p0 &&& (2 : Int32)) = (0 : Int32))))), .val (.int (3 : Int32)), .val (.int mv), .val (.int nv), .val (.ref b263), .unset, .unset] [])) _
        refine XS.aload X265.here hx rfl (hb hby at_77) rfl rfl ?_
        show Steps p.tables e below (T265.setTop (mkF m 79 #[.val (.int p0), .val (.int p1), .val (.int p2), .val (.int p3), .val (.int (1 : Int32)), .val (.int (own_b (¬ ((p0 &&& (2 : Int32)) = (0 : Int32))))), .val (.int (3 : Int32)), .val (.int mv), .val (.int nv), .val (.ref b263), .unset, .unset] [(.ref b263)])) _
        refine XS.aconstNull X265.here hx rfl (hb hby at_79) ?_
        show Steps p.tables e below (T265.setTop (mkF m 80 #[.val (.int p0), .val (.int p1), .val (.int p2), .val (.int p3), .val (.int (1 : Int32)), .val (.int (own_b (¬ ((p0 &&& (2 : Int32)) = (0 : Int32))))), .val (.int (3 : Int32)), .val (.int mv), .val (.int nv), .val (.ref b263), .unset, .unset] [.null, (.ref b263)])) _
        refine XS.dconst1 X265.here hx rfl (v := Jvm.FP.dconst1) (hb hby at_80) rfl ?_
        show Steps p.tables e below (T265.setTop (mkF m 81 #[.val (.int p0), .val (.int p1), .val (.int p2), .val (.int p3), .val (.int (1 : Int32)), .val (.int (own_b (¬ ((p0 &&& (2 : Int32)) = (0 : Int32))))), .val (.int (3 : Int32)), .val (.int mv), .val (.int nv), .val (.ref b263), .unset, .unset] [(.double Jvm.FP.dconst1), .null, (.ref b263)])) _
        refine st272.trans ?_
        show Steps p.tables e below (T272.setTop (mkF m 84 #[.val (.int p0), .val (.int p1), .val (.int p2), .val (.int p3), .val (.int (1 : Int32)), .val (.int (own_b (¬ ((p0 &&& (2 : Int32)) = (0 : Int32))))), .val (.int (3 : Int32)), .val (.int mv), .val (.int nv), .val (.ref b263), .unset, .unset] [])) _
        refine XS.iload X272.here hx rfl (hb hby at_84) rfl  ?_
        show Steps p.tables e below (T272.setTop (mkF m 86 #[.val (.int p0), .val (.int p1), .val (.int p2), .val (.int p3), .val (.int (1 : Int32)), .val (.int (own_b (¬ ((p0 &&& (2 : Int32)) = (0 : Int32))))), .val (.int (3 : Int32)), .val (.int mv), .val (.int nv), .val (.ref b263), .unset, .unset] [(.int (3 : Int32))])) _
        refine XS.iconst X272.here hx rfl (hb hby at_86) ?_
        show Steps p.tables e below (T272.setTop (mkF m 87 #[.val (.int p0), .val (.int p1), .val (.int p2), .val (.int p3), .val (.int (1 : Int32)), .val (.int (own_b (¬ ((p0 &&& (2 : Int32)) = (0 : Int32))))), .val (.int (3 : Int32)), .val (.int mv), .val (.int nv), .val (.ref b263), .unset, .unset] [(.int (2 : Int32)), (.int (3 : Int32))])) _
        refine XS.icmpNo X272.here hx rfl (hb hby at_87) rfl (flt (by decide)).1 ?_
        show Steps p.tables e below (T272.setTop (mkF m 90 #[.val (.int p0), .val (.int p1), .val (.int p2), .val (.int p3), .val (.int (1 : Int32)), .val (.int (own_b (¬ ((p0 &&& (2 : Int32)) = (0 : Int32))))), .val (.int (3 : Int32)), .val (.int mv), .val (.int nv), .val (.ref b263), .unset, .unset] [])) _
        refine XS.aload X272.here hx rfl (hb hby at_90) rfl rfl ?_
        show Steps p.tables e below (T272.setTop (mkF m 92 #[.val (.int p0), .val (.int p1), .val (.int p2), .val (.int p3), .val (.int (1 : Int32)), .val (.int (own_b (¬ ((p0 &&& (2 : Int32)) = (0 : Int32))))), .val (.int (3 : Int32)), .val (.int mv), .val (.int nv), .val (.ref b263), .unset, .unset] [(.ref b263)])) _
        refine XS.aconstNull X272.here hx rfl (hb hby at_92) ?_
        show Steps p.tables e below (T272.setTop (mkF m 93 #[.val (.int p0), .val (.int p1), .val (.int p2), .val (.int p3), .val (.int (1 : Int32)), .val (.int (own_b (¬ ((p0 &&& (2 : Int32)) = (0 : Int32))))), .val (.int (3 : Int32)), .val (.int mv), .val (.int nv), .val (.ref b263), .unset, .unset] [.null, (.ref b263)])) _
        refine X272.ldc2DoubleC hx hown (mvT hZ (ow hw 36 rfl)) (g := (mkF m 93 #[.val (.int p0), .val (.int p1), .val (.int p2), .val (.int p3), .val (.int (1 : Int32)), .val (.int (own_b (¬ ((p0 &&& (2 : Int32)) = (0 : Int32))))), .val (.int (3 : Int32)), .val (.int mv), .val (.int nv), .val (.ref b263), .unset, .unset] [.null, (.ref b263)])) rfl (hb hby at_93) _ ?_
        show Steps p.tables e below (T272.setTop (mkF m 96 #[.val (.int p0), .val (.int p1), .val (.int p2), .val (.int p3), .val (.int (1 : Int32)), .val (.int (own_b (¬ ((p0 &&& (2 : Int32)) = (0 : Int32))))), .val (.int (3 : Int32)), .val (.int mv), .val (.int nv), .val (.ref b263), .unset, .unset] [(.double (4611686018427387904 : UInt64)), .null, (.ref b263)])) _
        refine st274.trans ?_
        show Steps p.tables e below (T274.setTop (mkF m 99 #[.val (.int p0), .val (.int p1), .val (.int p2), .val (.int p3), .val (.int (1 : Int32)), .val (.int (own_b (¬ ((p0 &&& (2 : Int32)) = (0 : Int32))))), .val (.int (3 : Int32)), .val (.int mv), .val (.int nv), .val (.ref b263), .unset, .unset] [])) _
        refine XS.iload X274.here hx rfl (hb hby at_99) rfl  ?_
        show Steps p.tables e below (T274.setTop (mkF m 101 #[.val (.int p0), .val (.int p1), .val (.int p2), .val (.int p3), .val (.int (1 : Int32)), .val (.int (own_b (¬ ((p0 &&& (2 : Int32)) = (0 : Int32))))), .val (.int (3 : Int32)), .val (.int mv), .val (.int nv), .val (.ref b263), .unset, .unset] [(.int (3 : Int32))])) _
        refine XS.iconst X274.here hx rfl (hb hby at_101) ?_
        show Steps p.tables e below (T274.setTop (mkF m 102 #[.val (.int p0), .val (.int p1), .val (.int p2), .val (.int p3), .val (.int (1 : Int32)), .val (.int (own_b (¬ ((p0 &&& (2 : Int32)) = (0 : Int32))))), .val (.int (3 : Int32)), .val (.int mv), .val (.int nv), .val (.ref b263), .unset, .unset] [(.int (3 : Int32)), (.int (3 : Int32))])) _
        refine XS.icmpNo X274.here hx rfl (hb hby at_102) rfl (flt (by decide)).1 ?_
        show Steps p.tables e below (T274.setTop (mkF m 105 #[.val (.int p0), .val (.int p1), .val (.int p2), .val (.int p3), .val (.int (1 : Int32)), .val (.int (own_b (¬ ((p0 &&& (2 : Int32)) = (0 : Int32))))), .val (.int (3 : Int32)), .val (.int mv), .val (.int nv), .val (.ref b263), .unset, .unset] [])) _
        refine XS.aload X274.here hx rfl (hb hby at_105) rfl rfl ?_
        show Steps p.tables e below (T274.setTop (mkF m 107 #[.val (.int p0), .val (.int p1), .val (.int p2), .val (.int p3), .val (.int (1 : Int32)), .val (.int (own_b (¬ ((p0 &&& (2 : Int32)) = (0 : Int32))))), .val (.int (3 : Int32)), .val (.int mv), .val (.int nv), .val (.ref b263), .unset, .unset] [(.ref b263)])) _
        refine XS.aconstNull X274.here hx rfl (hb hby at_107) ?_
        show Steps p.tables e below (T274.setTop (mkF m 108 #[.val (.int p0), .val (.int p1), .val (.int p2), .val (.int p3), .val (.int (1 : Int32)), .val (.int (own_b (¬ ((p0 &&& (2 : Int32)) = (0 : Int32))))), .val (.int (3 : Int32)), .val (.int mv), .val (.int nv), .val (.ref b263), .unset, .unset] [.null, (.ref b263)])) _
        refine X274.ldc2DoubleC hx hown (mvT hZ (ow hw 37 rfl)) (g := (mkF m 108 #[.val (.int p0), .val (.int p1), .val (.int p2), .val (.int p3), .val (.int (1 : Int32)), .val (.int (own_b (¬ ((p0 &&& (2 : Int32)) = (0 : Int32))))), .val (.int (3 : Int32)), .val (.int mv), .val (.int nv), .val (.ref b263), .unset, .unset] [.null, (.ref b263)])) rfl (hb hby at_108) _ ?_
        show Steps p.tables e below (T274.setTop (mkF m 111 #[.val (.int p0), .val (.int p1), .val (.int p2), .val (.int p3), .val (.int (1 : Int32)), .val (.int (own_b (¬ ((p0 &&& (2 : Int32)) = (0 : Int32))))), .val (.int (3 : Int32)), .val (.int mv), .val (.int nv), .val (.ref b263), .unset, .unset] [(.double (4613937818241073152 : UInt64)), .null, (.ref b263)])) _
        refine st276.trans ?_
        show Steps p.tables e below (T276.setTop (mkF m 114 #[.val (.int p0), .val (.int p1), .val (.int p2), .val (.int p3), .val (.int (1 : Int32)), .val (.int (own_b (¬ ((p0 &&& (2 : Int32)) = (0 : Int32))))), .val (.int (3 : Int32)), .val (.int mv), .val (.int nv), .val (.ref b263), .unset, .unset] [])) _
        refine XS.aload X276.here hx rfl (hb hby at_114) rfl rfl ?_
        show Steps p.tables e below (T276.setTop (mkF m 116 #[.val (.int p0), .val (.int p1), .val (.int p2), .val (.int p3), .val (.int (1 : Int32)), .val (.int (own_b (¬ ((p0 &&& (2 : Int32)) = (0 : Int32))))), .val (.int (3 : Int32)), .val (.int mv), .val (.int nv), .val (.ref b263), .unset, .unset] [(.ref b263)])) _
        refine st278.trans ?_
        show Steps p.tables e below (T278.setTop (mkF m 119 #[.val (.int p0), .val (.int p1), .val (.int p2), .val (.int p3), .val (.int (1 : Int32)), .val (.int (own_b (¬ ((p0 &&& (2 : Int32)) = (0 : Int32))))), .val (.int (3 : Int32)), .val (.int mv), .val (.int nv), .val (.ref b263), .unset, .unset] [(.int (own_b ((0 : Int32) < ((((0 : Int32) + (1 : Int32)) + (1 : Int32)) + (1 : Int32)))))])) _
        refine XS.istore X278.here hx rfl (hb hby at_119) rfl (l' := #[.val (.int p0), .val (.int p1), .val (.int p2), .val (.int p3), .val (.int (1 : Int32)), .val (.int (own_b (¬ ((p0 &&& (2 : Int32)) = (0 : Int32))))), .val (.int (3 : Int32)), .val (.int mv), .val (.int nv), .val (.ref b263), .val (.int (own_b ((0 : Int32) < ((((0 : Int32) + (1 : Int32)) + (1 : Int32)) + (1 : Int32))))), .unset]) rfl ?_
        show Steps p.tables e below (T278.setTop (mkF m 121 #[.val (.int p0), .val (.int p1), .val (.int p2), .val (.int p3), .val (.int (1 : Int32)), .val (.int (own_b (¬ ((p0 &&& (2 : Int32)) = (0 : Int32))))), .val (.int (3 : Int32)), .val (.int mv), .val (.int nv), .val (.ref b263), .val (.int (own_b ((0 : Int32) < ((((0 : Int32) + (1 : Int32)) + (1 : Int32)) + (1 : Int32))))), .unset] [])) _
        refine XS.iload X278.here hx rfl (hb hby at_121) rfl  ?_
        exact kZ)
      by_cases hc280 : (¬ ((p0 &&& (2 : Int32)) = (0 : Int32)))
      ·  -- yes
        obtain ⟨_, _, ⟨T281, L281, k281, n281⟩, -, X281, ⟨Lc281, hQ281, l281, y281, z281⟩, st281⟩ := Jvm.LawKit.callS X278 hx (y := (⟨oL, "doPolls", "(Lcom/example/portunus/portunus/policy/Run;I)V"⟩ : MethodName)) hown (mvT hZ (ow hw 54 rfl)) (mvT hZ (ow hw 55 rfl)) (mvT hZ (ow hw 47 rfl)) (mvT hZ (ow hw 56 rfl)) (by decide) (backOf (W := 0) (rm10d l Z a0 hw [] b263 nv tk_266 ((((0 : Int32) + (1 : Int32)) + (1 : Int32)) + (1 : Int32)) (0 : Int32) (0 : Int32) kt_267 dd_268 T276.heap n0 Z277 f276_0 f276_1 f276_2 f276_3 f276_4 f276_5 f276_6 gn_b263 u265_0 ne270 f276_7 u265_2 ne271 u265_4 hn4 (by decide)) hZ (ow hw 56 rfl) (ow hw 47 rfl) (by decide) (by decide)) (g := (mkF m 130 #[.val (.int p0), .val (.int p1), .val (.int p2), .val (.int p3), .val (.int (1 : Int32)), .val (.int (own_b (¬ ((p0 &&& (2 : Int32)) = (0 : Int32))))), .val (.int (3 : Int32)), .val (.int mv), .val (.int nv), .val (.ref b263), .val (.int (own_b ((0 : Int32) < ((((0 : Int32) + (1 : Int32)) + (1 : Int32)) + (1 : Int32))))), .unset] [(.int nv), (.ref b263)])) rfl (by rw [hml]; rfl) (argsL := [(.ref b263), (.int nv)]) (rest := []) (lenOf pd9 rfl) rfl (by show 2 * 0 + _ ≤ _; exact Nat.le_of_eq rfl) (hb hby at_130) (fun _ _ => ⟨rfl, e278, (by decide : 3 + 0 ≤ _), (by decide : 21 + 0 ≤ _)⟩)
        dsimp only [Pt.U, Pt.locs, Pt.cells, Pt.slots] at X281 l281 y281 z281 st281 hQ281
        subst l281 y281 z281
        obtain ⟨fn_282, rfl, N281q, K281, f281_0, f281_1, f281_2, f281_3, f281_4, f281_5, f281_6, f281_7⟩ := hQ281
        have N281 := Fr.app N278 N281q
        have Z283 : n0 ≤ T281.heap.size := Nat.le_trans Z277 K281.1
        obtain ⟨_, _, ⟨T284, L284, k284, n284⟩, -, X284, ⟨Lc284, hQ284, l284, y284, z284⟩, st284⟩ := Jvm.LawKit.callS X281 hx (y := (⟨oL, "doMarks", "(Lcom/example/portunus/portunus/policy/Run;I)V"⟩ : MethodName)) hown (mvT hZ (ow hw 45 rfl)) (mvT hZ (ow hw 46 rfl)) (mvT hZ (ow hw 47 rfl)) (mvT hZ (ow hw 48 rfl)) (by decide) (backOf (W := 0) (rm8d l Z a0 hw [] b263 mv tk_266 (own_ps (0 : Int32) ((((0 : Int32) + (1 : Int32)) + (1 : Int32)) + (1 : Int32)) nv) (own_pl (0 : Int32) nv) fn_282 kt_267 dd_268 T281.heap n0 Z283 f281_0 f281_1 f281_2 f281_3 f281_4 f281_5 f281_6 gn_b263 u265_0 ne270 f281_7 u265_2 ne271 u265_4 hm4) hZ (ow hw 48 rfl) (ow hw 47 rfl) (by decide) (by decide)) (g := (mkF m 137 #[.val (.int p0), .val (.int p1), .val (.int p2), .val (.int p3), .val (.int (1 : Int32)), .val (.int (own_b (¬ ((p0 &&& (2 : Int32)) = (0 : Int32))))), .val (.int (3 : Int32)), .val (.int mv), .val (.int nv), .val (.ref b263), .val (.int (own_b ((0 : Int32) < ((((0 : Int32) + (1 : Int32)) + (1 : Int32)) + (1 : Int32))))), .unset] [(.int mv), (.ref b263)])) rfl (by rw [hml]; rfl) (argsL := [(.ref b263), (.int mv)]) (rest := []) (lenOf pd9 rfl) rfl (by show 2 * 0 + _ ≤ _; exact Nat.le_of_eq rfl) (hb hby at_137) (fun _ _ => ⟨rfl, rfl, (by decide : 3 + 0 ≤ _), (by decide : 21 + 0 ≤ _)⟩)
        dsimp only [Pt.U, Pt.locs, Pt.cells, Pt.slots] at X284 l284 y284 z284 st284 hQ284
        subst l284 y284 z284
        obtain ⟨rfl, N284q, K284, f284_0, f284_1, f284_2, f284_3, f284_4, f284_5, f284_6, f284_7⟩ := hQ284
        have N284 := Fr.app N281 N284q
        have Z285 : n0 ≤ T284.heap.size := Nat.le_trans Z283 K284.1
        obtain ⟨cq286, kq286, q286a, q286b, q286c⟩ := isOf hZ rfl f284_0
        obtain ⟨_, _, ⟨T286, L286, k286, n286⟩, -, X286, ⟨Lc286, hQ286, l286, y286, z286⟩, st286⟩ := X284.virtualBack hx (y := (⟨oR, "hasOther", "()Z"⟩ : MethodName)) (z := (⟨oR, "hasOther", "()Z"⟩ : MethodName)) hown (mvT hZ (ow hw 38 rfl)) (mvT hZ (ow hw 39 rfl)) (notFace_of_selects (args := #[]) (mvT hZ (ow hw 41 rfl))) (mvT hZ (ow hw 41 rfl)) (mvT hZ (ow hw 40 rfl)) (by decide) (backOf (W := 0) (rm7 l Z a0 hw [] b263 (own_ps (0 : Int32) ((((0 : Int32) + (1 : Int32)) + (1 : Int32)) + (1 : Int32)) nv) ((own_pl (0 : Int32) nv) + mv) T284.heap n0 Z285 f284_3 f284_4) hZ (ow hw 42 rfl) (ow hw 7 rfl) (by decide) (by decide)) q286a q286c (g := (mkF m 159 #[.val (.int p0), .val (.int p1), .val (.int p2), .val (.int p3), .val (.int (1 : Int32)), .val (.int (own_b (¬ ((p0 &&& (2 : Int32)) = (0 : Int32))))), .val (.int (3 : Int32)), .val (.int mv), .val (.int nv), .val (.ref b263), .val (.int (own_b ((0 : Int32) < ((((0 : Int32) + (1 : Int32)) + (1 : Int32)) + (1 : Int32))))), .unset] [(.ref b263)])) rfl (by rw [hml]; rfl) (Steps.refl _) (argsL := []) (rest := []) (lenOf pd8 rfl) rfl (by show 2 * 0 + _ ≤ _; exact Nat.le_of_eq rfl) (hb hby at_159) (fun _ _ => ⟨rfl, rfl, (by decide : 3 + 0 ≤ _), (by decide : 21 + 0 ≤ _)⟩)
        dsimp only [Pt.U, Pt.locs, Pt.cells, Pt.slots] at X286 l286 y286 z286 st286 hQ286
        subst l286 y286 z286
        obtain ⟨rfl, N286q, e286⟩ := hQ286
        have N286 := Fr.app N284 N286q
        have pre287 : ∀ tZ, Steps p.tables e below (T286.setTop (mkF m 189 #[.val (.int p0), .val (.int p1), .val (.int p2), .val (.int p3), .val (.int (1 : Int32)), .val (.int (own_b (¬ ((p0 &&& (2 : Int32)) = (0 : Int32))))), .val (.int (3 : Int32)), .val (.int mv), .val (.int nv), .val (.ref b263), .val (.int (own_b ((0 : Int32) < ((((0 : Int32) + (1 : Int32)) + (1 : Int32)) + (1 : Int32))))), .val (.int (own_b (((own_pl (0 : Int32) nv) + mv) < (own_ps (0 : Int32) ((((0 : Int32) + (1 : Int32)) + (1 : Int32)) + (1 : Int32)) nv))))] [(.int (((3 : Int32) - mv) - nv)), (.int (own_b (((own_pl (0 : Int32) nv) + mv) < (own_ps (0 : Int32) ((((0 : Int32) + (1 : Int32)) + (1 : Int32)) + (1 : Int32)) nv))))])) tZ → Steps p.tables e below (s₁.setTop (entryFrame m #[(.int p0), (.int p1), (.int p2), (.int p3)] maxLocals)) tZ := fun tZ kZ => pre279 tZ (by
          show Steps p.tables e below (T278.setTop (mkF m 123 #[.val (.int p0), .val (.int p1), .val (.int p2), .val (.int p3), .val (.int (1 : Int32)), .val (.int (own_b (¬ ((p0 &&& (2 : Int32)) = (0 : Int32))))), .val (.int (3 : Int32)), .val (.int mv), .val (.int nv), .val (.ref b263), .val (.int (own_b ((0 : Int32) < ((((0 : Int32) + (1 : Int32)) + (1 : Int32)) + (1 : Int32))))), .unset] [(.int (own_b (¬ ((p0 &&& (2 : Int32)) = (0 : Int32)))))])) _
          refine XS.ifNo X278.here hx rfl (hb hby at_123) rfl ((if0 _ _).trans (feq (own_b_nz hc280)).1) ?_
          show Steps p.tables e below (T278.setTop (mkF m 126 #[.val (.int p0), .val (.int p1), .val (.int p2), .val (.int p3), .val (.int (1 : Int32)), .val (.int (own_b (¬ ((p0 &&& (2 : Int32)) = (0 : Int32))))), .val (.int (3 : Int32)), .val (.int mv), .val (.int nv), .val (.ref b263), .val (.int (own_b ((0 : Int32) < ((((0 : Int32) + (1 : Int32)) + (1 : Int32)) + (1 : Int32))))), .unset] [])) _
          refine XS.aload X278.here hx rfl (hb hby at_126) rfl rfl ?_
          show Steps p.tables e below (T278.setTop (mkF m 128 #[.val (.int p0), .val (.int p1), .val (.int p2), .val (.int p3), .val (.int (1 : Int32)), .val (.int (own_b (¬ ((p0 &&& (2 : Int32)) = (0 : Int32))))), .val (.int (3 : Int32)), .val (.int mv), .val (.int nv), .val (.ref b263), .val (.int (own_b ((0 : Int32) < ((((0 : Int32) + (1 : Int32)) + (1 : Int32)) + (1 : Int32))))), .unset] [(.ref b263)])) _
          refine XS.iload X278.here hx rfl (hb hby at_128) rfl  ?_
          show Steps p.tables e below (T278.setTop (mkF m 130 #[.val (.int p0), .val (.int p1), .val (.int p2), .val (.int p3), .val (.int (1 : Int32)), .val (.int (own_b (¬ ((p0 &&& (2 : Int32)) = (0 : Int32))))), .val (.int (3 : Int32)), .val (.int mv), .val (.int nv), .val (.ref b263), .val (.int (own_b ((0 : Int32) < ((((0 : Int32) + (1 : Int32)) + (1 : Int32)) + (1 : Int32))))), .unset] [(.int nv), (.ref b263)])) _
          refine st281 _ ?_
          show Steps p.tables e below (T281.setTop (mkF m 133 #[.val (.int p0), .val (.int p1), .val (.int p2), .val (.int p3), .val (.int (1 : Int32)), .val (.int (own_b (¬ ((p0 &&& (2 : Int32)) = (0 : Int32))))), .val (.int (3 : Int32)), .val (.int mv), .val (.int nv), .val (.ref b263), .val (.int (own_b ((0 : Int32) < ((((0 : Int32) + (1 : Int32)) + (1 : Int32)) + (1 : Int32))))), .unset] [])) _
          refine XS.aload X281.here hx rfl (hb hby at_133) rfl rfl ?_
          show Steps p.tables e below (T281.setTop (mkF m 135 #[.val (.int p0), .val (.int p1), .val (.int p2), .val (.int p3), .val (.int (1 : Int32)), .val (.int (own_b (¬ ((p0 &&& (2 : Int32)) = (0 : Int32))))), .val (.int (3 : Int32)), .val (.int mv), .val (.int nv), .val (.ref b263), .val (.int (own_b ((0 : Int32) < ((((0 : Int32) + (1 : Int32)) + (1 : Int32)) + (1 : Int32))))), .unset] [(.ref b263)])) _
          refine XS.iload X281.here hx rfl (hb hby at_135) rfl  ?_
          show Steps p.tables e below (T281.setTop (mkF m 137 #[.val (.int p0), .val (.int p1), .val (.int p2), .val (.int p3), .val (.int (1 : Int32)), .val (.int (own_b (¬ ((p0 &&& (2 : Int32)) = (0 : Int32))))), .val (.int (3 : Int32)), .val (.int mv), .val (.int nv), .val (.ref b263), .val (.int (own_b ((0 : Int32) < ((((0 : Int32) + (1 : Int32)) + (1 : Int32)) + (1 : Int32))))), .unset] [(.int mv), (.ref b263)])) _
          refine st284 _ ?_
          show Steps p.tables e below (T284.setTop (mkF m 140 #[.val (.int p0), .val (.int p1), .val (.int p2), .val (.int p3), .val (.int (1 : Int32)), .val (.int (own_b (¬ ((p0 &&& (2 : Int32)) = (0 : Int32))))), .val (.int (3 : Int32)), .val (.int mv), .val (.int nv), .val (.ref b263), .val (.int (own_b ((0 : Int32) < ((((0 : Int32) + (1 : Int32)) + (1 : Int32)) + (1 : Int32))))), .unset] [])) _
          refine XS.goto X284.here hx rfl (pc0 := 140) (pc' := 157) rfl (hb hby at_140) (by decide) (by decide) ?_
          show Steps p.tables e below (T284.setTop (mkF m 157 #[.val (.int p0), .val (.int p1), .val (.int p2), .val (.int p3), .val (.int (1 : Int32)), .val (.int (own_b (¬ ((p0 &&& (2 : Int32)) = (0 : Int32))))), .val (.int (3 : Int32)), .val (.int mv), .val (.int nv), .val (.ref b263), .val (.int (own_b ((0 : Int32) < ((((0 : Int32) + (1 : Int32)) + (1 : Int32)) + (1 : Int32))))), .unset] [])) _
          refine XS.aload X284.here hx rfl (hb hby at_157) rfl rfl ?_
          show Steps p.tables e below (T284.setTop (mkF m 159 #[.val (.int p0), .val (.int p1), .val (.int p2), .val (.int p3), .val (.int (1 : Int32)), .val (.int (own_b (¬ ((p0 &&& (2 : Int32)) = (0 : Int32))))), .val (.int (3 : Int32)), .val (.int mv), .val (.int nv), .val (.ref b263), .val (.int (own_b ((0 : Int32) < ((((0 : Int32) + (1 : Int32)) + (1 : Int32)) + (1 : Int32))))), .unset] [(.ref b263)])) _
          refine st286.trans ?_
          show Steps p.tables e below (T286.setTop (mkF m 162 #[.val (.int p0), .val (.int p1), .val (.int p2), .val (.int p3), .val (.int (1 : Int32)), .val (.int (own_b (¬ ((p0 &&& (2 : Int32)) = (0 : Int32))))), .val (.int (3 : Int32)), .val (.int mv), .val (.int nv), .val (.ref b263), .val (.int (own_b ((0 : Int32) < ((((0 : Int32) + (1 : Int32)) + (1 : Int32)) + (1 : Int32))))), .unset] [(.int (own_b (((own_pl (0 : Int32) nv) + mv) < (own_ps (0 : Int32) ((((0 : Int32) + (1 : Int32)) + (1 : Int32)) + (1 : Int32)) nv))))])) _
          refine XS.istore X286.here hx rfl (hb hby at_162) rfl (l' := #[.val (.int p0), .val (.int p1), .val (.int p2), .val (.int p3), .val (.int (1 : Int32)), .val (.int (own_b (¬ ((p0 &&& (2 : Int32)) = (0 : Int32))))), .val (.int (3 : Int32)), .val (.int mv), .val (.int nv), .val (.ref b263), .val (.int (own_b ((0 : Int32) < ((((0 : Int32) + (1 : Int32)) + (1 : Int32)) + (1 : Int32))))), .val (.int (own_b (((own_pl (0 : Int32) nv) + mv) < (own_ps (0 : Int32) ((((0 : Int32) + (1 : Int32)) + (1 : Int32)) + (1 : Int32)) nv))))]) rfl ?_
          show Steps p.tables e below (T286.setTop (mkF m 164 #[.val (.int p0), .val (.int p1), .val (.int p2), .val (.int p3), .val (.int (1 : Int32)), .val (.int (own_b (¬ ((p0 &&& (2 : Int32)) = (0 : Int32))))), .val (.int (3 : Int32)), .val (.int mv), .val (.int nv), .val (.ref b263), .val (.int (own_b ((0 : Int32) < ((((0 : Int32) + (1 : Int32)) + (1 : Int32)) + (1 : Int32))))), .val (.int (own_b (((own_pl (0 : Int32) nv) + mv) < (own_ps (0 : Int32) ((((0 : Int32) + (1 : Int32)) + (1 : Int32)) + (1 : Int32)) nv))))] [])) _
          refine XS.iload X286.here hx rfl (hb hby at_164) rfl  ?_
          show Steps p.tables e below (T286.setTop (mkF m 166 #[.val (.int p0), .val (.int p1), .val (.int p2), .val (.int p3), .val (.int (1 : Int32)), .val (.int (own_b (¬ ((p0 &&& (2 : Int32)) = (0 : Int32))))), .val (.int (3 : Int32)), .val (.int mv), .val (.int nv), .val (.ref b263), .val (.int (own_b ((0 : Int32) < ((((0 : Int32) + (1 : Int32)) + (1 : Int32)) + (1 : Int32))))), .val (.int (own_b (((own_pl (0 : Int32) nv) + mv) < (own_ps (0 : Int32) ((((0 : Int32) + (1 : Int32)) + (1 : Int32)) + (1 : Int32)) nv))))] [(.int (own_b ((0 : Int32) < ((((0 : Int32) + (1 : Int32)) + (1 : Int32)) + (1 : Int32)))))])) _
          refine XS.iload X286.here hx rfl (hb hby at_166) rfl  ?_
          show Steps p.tables e below (T286.setTop (mkF m 168 #[.val (.int p0), .val (.int p1), .val (.int p2), .val (.int p3), .val (.int (1 : Int32)), .val (.int (own_b (¬ ((p0 &&& (2 : Int32)) = (0 : Int32))))), .val (.int (3 : Int32)), .val (.int mv), .val (.int nv), .val (.ref b263), .val (.int (own_b ((0 : Int32) < ((((0 : Int32) + (1 : Int32)) + (1 : Int32)) + (1 : Int32))))), .val (.int (own_b (((own_pl (0 : Int32) nv) + mv) < (own_ps (0 : Int32) ((((0 : Int32) + (1 : Int32)) + (1 : Int32)) + (1 : Int32)) nv))))] [(.int (3 : Int32)), (.int (own_b ((0 : Int32) < ((((0 : Int32) + (1 : Int32)) + (1 : Int32)) + (1 : Int32)))))])) _
          refine XS.ifNo X286.here hx rfl (hb hby at_168) rfl ((if0 _ _).trans (tlt (by decide)).2.2.2) ?_
          show Steps p.tables e below (T286.setTop (mkF m 171 #[.val (.int p0), .val (.int p1), .val (.int p2), .val (.int p3), .val (.int (1 : Int32)), .val (.int (own_b (¬ ((p0 &&& (2 : Int32)) = (0 : Int32))))), .val (.int (3 : Int32)), .val (.int mv), .val (.int nv), .val (.ref b263), .val (.int (own_b ((0 : Int32) < ((((0 : Int32) + (1 : Int32)) + (1 : Int32)) + (1 : Int32))))), .val (.int (own_b (((own_pl (0 : Int32) nv) + mv) < (own_ps (0 : Int32) ((((0 : Int32) + (1 : Int32)) + (1 : Int32)) + (1 : Int32)) nv))))] [(.int (own_b ((0 : Int32) < ((((0 : Int32) + (1 : Int32)) + (1 : Int32)) + (1 : Int32)))))])) _
          refine XS.iconst X286.here hx rfl (hb hby at_171) ?_
          show Steps p.tables e below (T286.setTop (mkF m 172 #[.val (.int p0), .val (.int p1), .val (.int p2), .val (.int p3), .val (.int (1 : Int32)), .val (.int (own_b (¬ ((p0 &&& (2 : Int32)) = (0 : Int32))))), .val (.int (3 : Int32)), .val (.int mv), .val (.int nv), .val (.ref b263), .val (.int (own_b ((0 : Int32) < ((((0 : Int32) + (1 : Int32)) + (1 : Int32)) + (1 : Int32))))), .val (.int (own_b (((own_pl (0 : Int32) nv) + mv) < (own_ps (0 : Int32) ((((0 : Int32) + (1 : Int32)) + (1 : Int32)) + (1 : Int32)) nv))))] [(.int (1 : Int32)), (.int (own_b ((0 : Int32) < ((((0 : Int32) + (1 : Int32)) + (1 : Int32)) + (1 : Int32)))))])) _
          refine XS.goto X286.here hx rfl (pc0 := 172) (pc' := 176) rfl (hb hby at_172) (by decide) (by decide) ?_
          show Steps p.tables e below (T286.setTop (mkF m 176 #[.val (.int p0), .val (.int p1), .val (.int p2), .val (.int p3), .val (.int (1 : Int32)), .val (.int (own_b (¬ ((p0 &&& (2 : Int32)) = (0 : Int32))))), .val (.int (3 : Int32)), .val (.int mv), .val (.int nv), .val (.ref b263), .val (.int (own_b ((0 : Int32) < ((((0 : Int32) + (1 : Int32)) + (1 : Int32)) + (1 : Int32))))), .val (.int (own_b (((own_pl (0 : Int32) nv) + mv) < (own_ps (0 : Int32) ((((0 : Int32) + (1 : Int32)) + (1 : Int32)) + (1 : Int32)) nv))))] [(.int (1 : Int32)), (.int (own_b ((0 : Int32) < ((((0 : Int32) + (1 : Int32)) + (1 : Int32)) + (1 : Int32)))))])) _
          refine XS.icmpNo X286.here hx rfl (hb hby at_176) rfl (teq (by decide)).2 ?_
          show Steps p.tables e below (T286.setTop (mkF m 179 #[.val (.int p0), .val (.int p1), .val (.int p2), .val (.int p3), .val (.int (1 : Int32)), .val (.int (own_b (¬ ((p0 &&& (2 : Int32)) = (0 : Int32))))), .val (.int (3 : Int32)), .val (.int mv), .val (.int nv), .val (.ref b263), .val (.int (own_b ((0 : Int32) < ((((0 : Int32) + (1 : Int32)) + (1 : Int32)) + (1 : Int32))))), .val (.int (own_b (((own_pl (0 : Int32) nv) + mv) < (own_ps (0 : Int32) ((((0 : Int32) + (1 : Int32)) + (1 : Int32)) + (1 : Int32)) nv))))] [])) _
          refine XS.iload X286.here hx rfl (hb hby at_179) rfl  ?_
          show Steps p.tables e below (T286.setTop (mkF m 181 #[.val (.int p0), .val (.int p1), .val (.int p2), .val (.int p3), .val (.int (1 : Int32)), .val (.int (own_b (¬ ((p0 &&& (2 : Int32)) = (0 : Int32))))), .val (.int (3 : Int32)), .val (.int mv), .val (.int nv), .val (.ref b263), .val (.int (own_b ((0 : Int32) < ((((0 : Int32) + (1 : Int32)) + (1 : Int32)) + (1 : Int32))))), .val (.int (own_b (((own_pl (0 : Int32) nv) + mv) < (own_ps (0 : Int32) ((((0 : Int32) + (1 : Int32)) + (1 : Int32)) + (1 : Int32)) nv))))] [(.int (own_b (((own_pl (0 : Int32) nv) + mv) < (own_ps (0 : Int32) ((((0 : Int32) + (1 : Int32)) + (1 : Int32)) + (1 : Int32)) nv))))])) _
          refine XS.iload X286.here hx rfl (hb hby at_181) rfl  ?_
          show Steps p.tables e below (T286.setTop (mkF m 183 #[.val (.int p0), .val (.int p1), .val (.int p2), .val (.int p3), .val (.int (1 : Int32)), .val (.int (own_b (¬ ((p0 &&& (2 : Int32)) = (0 : Int32))))), .val (.int (3 : Int32)), .val (.int mv), .val (.int nv), .val (.ref b263), .val (.int (own_b ((0 : Int32) < ((((0 : Int32) + (1 : Int32)) + (1 : Int32)) + (1 : Int32))))), .val (.int (own_b (((own_pl (0 : Int32) nv) + mv) < (own_ps (0 : Int32) ((((0 : Int32) + (1 : Int32)) + (1 : Int32)) + (1 : Int32)) nv))))] [(.int (3 : Int32)), (.int (own_b (((own_pl (0 : Int32) nv) + mv) < (own_ps (0 : Int32) ((((0 : Int32) + (1 : Int32)) + (1 : Int32)) + (1 : Int32)) nv))))])) _
          refine XS.iload X286.here hx rfl (hb hby at_183) rfl  ?_
          show Steps p.tables e below (T286.setTop (mkF m 185 #[.val (.int p0), .val (.int p1), .val (.int p2), .val (.int p3), .val (.int (1 : Int32)), .val (.int (own_b (¬ ((p0 &&& (2 : Int32)) = (0 : Int32))))), .val (.int (3 : Int32)), .val (.int mv), .val (.int nv), .val (.ref b263), .val (.int (own_b ((0 : Int32) < ((((0 : Int32) + (1 : Int32)) + (1 : Int32)) + (1 : Int32))))), .val (.int (own_b (((own_pl (0 : Int32) nv) + mv) < (own_ps (0 : Int32) ((((0 : Int32) + (1 : Int32)) + (1 : Int32)) + (1 : Int32)) nv))))] [(.int mv), (.int (3 : Int32)), (.int (own_b (((own_pl (0 : Int32) nv) + mv) < (own_ps (0 : Int32) ((((0 : Int32) + (1 : Int32)) + (1 : Int32)) + (1 : Int32)) nv))))])) _
          refine XS.isub X286.here hx rfl (hb hby at_185) rfl ?_
          show Steps p.tables e below (T286.setTop (mkF m 186 #[.val (.int p0), .val (.int p1), .val (.int p2), .val (.int p3), .val (.int (1 : Int32)), .val (.int (own_b (¬ ((p0 &&& (2 : Int32)) = (0 : Int32))))), .val (.int (3 : Int32)), .val (.int mv), .val (.int nv), .val (.ref b263), .val (.int (own_b ((0 : Int32) < ((((0 : Int32) + (1 : Int32)) + (1 : Int32)) + (1 : Int32))))), .val (.int (own_b (((own_pl (0 : Int32) nv) + mv) < (own_ps (0 : Int32) ((((0 : Int32) + (1 : Int32)) + (1 : Int32)) + (1 : Int32)) nv))))] [(.int ((3 : Int32) - mv)), (.int (own_b (((own_pl (0 : Int32) nv) + mv) < (own_ps (0 : Int32) ((((0 : Int32) + (1 : Int32)) + (1 : Int32)) + (1 : Int32)) nv))))])) _
          refine XS.iload X286.here hx rfl (hb hby at_186) rfl  ?_
          show Steps p.tables e below (T286.setTop (mkF m 188 #[.val (.int p0), .val (.int p1), .val (.int p2), .val (.int p3), .val (.int (1 : Int32)), .val (.int (own_b (¬ ((p0 &&& (2 : Int32)) = (0 : Int32))))), .val (.int (3 : Int32)), .val (.int mv), .val (.int nv), .val (.ref b263), .val (.int (own_b ((0 : Int32) < ((((0 : Int32) + (1 : Int32)) + (1 : Int32)) + (1 : Int32))))), .val (.int (own_b (((own_pl (0 : Int32) nv) + mv) < (own_ps (0 : Int32) ((((0 : Int32) + (1 : Int32)) + (1 : Int32)) + (1 : Int32)) nv))))] [(.int nv), (.int ((3 : Int32) - mv)), (.int (own_b (((own_pl (0 : Int32) nv) + mv) < (own_ps (0 : Int32) ((((0 : Int32) + (1 : Int32)) + (1 : Int32)) + (1 : Int32)) nv))))])) _
          refine XS.isub X286.here hx rfl (hb hby at_188) rfl ?_
          exact kZ)
        have pre289 : ∀ tZ, Steps p.tables e below (T286.setTop (mkF m 197 #[.val (.int p0), .val (.int p1), .val (.int p2), .val (.int p3), .val (.int (1 : Int32)), .val (.int (own_b (¬ ((p0 &&& (2 : Int32)) = (0 : Int32))))), .val (.int (3 : Int32)), .val (.int mv), .val (.int nv), .val (.ref b263), .val (.int (own_b ((0 : Int32) < ((((0 : Int32) + (1 : Int32)) + (1 : Int32)) + (1 : Int32))))), .val (.int (own_b (((own_pl (0 : Int32) nv) + mv) < (own_ps (0 : Int32) ((((0 : Int32) + (1 : Int32)) + (1 : Int32)) + (1 : Int32)) nv))))] [(.int (own_b ((0 : Int32) < (((3 : Int32) - mv) - nv)))), (.int (own_b (((own_pl (0 : Int32) nv) + mv) < (own_ps (0 : Int32) ((((0 : Int32) + (1 : Int32)) + (1 : Int32)) + (1 : Int32)) nv))))])) tZ → Steps p.tables e below (s₁.setTop (entryFrame m #[(.int p0), (.int p1), (.int p2), (.int p3)] maxLocals)) tZ := fun tZ kZ => pre287 tZ (by
          by_cases hc288 : (0 : Int32) < (((3 : Int32) - mv) - nv)
          ·  -- yes
            show Steps p.tables e below (T286.setTop (mkF m 189 #[.val (.int p0), .val (.int p1), .val (.int p2), .val (.int p3), .val (.int (1 : Int32)), .val (.int (own_b (¬ ((p0 &&& (2 : Int32)) = (0 : Int32))))), .val (.int (3 : Int32)), .val (.int mv), .val (.int nv), .val (.ref b263), .val (.int (own_b ((0 : Int32) < ((((0 : Int32) + (1 : Int32)) + (1 : Int32)) + (1 : Int32))))), .val (.int (own_b (((own_pl (0 : Int32) nv) + mv) < (own_ps (0 : Int32) ((((0 : Int32) + (1 : Int32)) + (1 : Int32)) + (1 : Int32)) nv))))] [(.int (((3 : Int32) - mv) - nv)), (.int (own_b (((own_pl (0 : Int32) nv) + mv) < (own_ps (0 : Int32) ((((0 : Int32) + (1 : Int32)) + (1 : Int32)) + (1 : Int32)) nv))))])) _
            refine XS.ifNo X286.here hx rfl (hb hby at_189) rfl ((if0 _ _).trans (tlt hc288).2.2.2) ?_
            show Steps p.tables e below (T286.setTop (mkF m 192 #[.val (.int p0), .val (.int p1), .val (.int p2), .val (.int p3), .val (.int (1 : Int32)), .val (.int (own_b (¬ ((p0 &&& (2 : Int32)) = (0 : Int32))))), .val (.int (3 : Int32)), .val (.int mv), .val (.int nv), .val (.ref b263), .val (.int (own_b ((0 : Int32) < ((((0 : Int32) + (1 : Int32)) + (1 : Int32)) + (1 : Int32))))), .val (.int (own_b (((own_pl (0 : Int32) nv) + mv) < (own_ps (0 : Int32) ((((0 : Int32) + (1 : Int32)) + (1 : Int32)) + (1 : Int32)) nv))))] [(.int (own_b (((own_pl (0 : Int32) nv) + mv) < (own_ps (0 : Int32) ((((0 : Int32) + (1 : Int32)) + (1 : Int32)) + (1 : Int32)) nv))))])) _
            refine XS.iconst X286.here hx rfl (hb hby at_192) ?_
            show Steps p.tables e below (T286.setTop (mkF m 193 #[.val (.int p0), .val (.int p1), .val (.int p2), .val (.int p3), .val (.int (1 : Int32)), .val (.int (own_b (¬ ((p0 &&& (2 : Int32)) = (0 : Int32))))), .val (.int (3 : Int32)), .val (.int mv), .val (.int nv), .val (.ref b263), .val (.int (own_b ((0 : Int32) < ((((0 : Int32) + (1 : Int32)) + (1 : Int32)) + (1 : Int32))))), .val (.int (own_b (((own_pl (0 : Int32) nv) + mv) < (own_ps (0 : Int32) ((((0 : Int32) + (1 : Int32)) + (1 : Int32)) + (1 : Int32)) nv))))] [(.int (1 : Int32)), (.int (own_b (((own_pl (0 : Int32) nv) + mv) < (own_ps (0 : Int32) ((((0 : Int32) + (1 : Int32)) + (1 : Int32)) + (1 : Int32)) nv))))])) _
            refine XS.goto X286.here hx rfl (pc0 := 193) (pc' := 197) rfl (hb hby at_193) (by decide) (by decide) ?_
            have ekZ : (own_b ((0 : Int32) < (((3 : Int32) - mv) - nv))) = (1 : Int32) := by first | (simp only [own_b, eq_true hc288, and_true, true_and, and_false, false_and, or_true, true_or, or_false, false_or, not_true_eq_false, not_false_eq_true, if_true, if_false, reduceIte]; done) | (simp [own_b, hc288]; done)
            rw [ekZ] at kZ
            exact kZ
          ·  -- no
            show Steps p.tables e below (T286.setTop (mkF m 189 #[.val (.int p0), .val (.int p1), .val (.int p2), .val (.int p3), .val (.int (1 : Int32)), .val (.int (own_b (¬ ((p0 &&& (2 : Int32)) = (0 : Int32))))), .val (.int (3 : Int32)), .val (.int mv), .val (.int nv), .val (.ref b263), .val (.int (own_b ((0 : Int32) < ((((0 : Int32) + (1 : Int32)) + (1 : Int32)) + (1 : Int32))))), .val (.int (own_b (((own_pl (0 : Int32) nv) + mv) < (own_ps (0 : Int32) ((((0 : Int32) + (1 : Int32)) + (1 : Int32)) + (1 : Int32)) nv))))] [(.int (((3 : Int32) - mv) - nv)), (.int (own_b (((own_pl (0 : Int32) nv) + mv) < (own_ps (0 : Int32) ((((0 : Int32) + (1 : Int32)) + (1 : Int32)) + (1 : Int32)) nv))))])) _
            refine XS.ifYes X286.here hx rfl (pc0 := 189) (pc' := 196) rfl (hb hby at_189) rfl ((if0 _ _).trans (flt hc288).2.2.2) (by decide) (by decide) ?_
            show Steps p.tables e below (T286.setTop (mkF m 196 #[.val (.int p0), .val (.int p1), .val (.int p2), .val (.int p3), .val (.int (1 : Int32)), .val (.int (own_b (¬ ((p0 &&& (2 : Int32)) = (0 : Int32))))), .val (.int (3 : Int32)), .val (.int mv), .val (.int nv), .val (.ref b263), .val (.int (own_b ((0 : Int32) < ((((0 : Int32) + (1 : Int32)) + (1 : Int32)) + (1 : Int32))))), .val (.int (own_b (((own_pl (0 : Int32) nv) + mv) < (own_ps (0 : Int32) ((((0 : Int32) + (1 : Int32)) + (1 : Int32)) + (1 : Int32)) nv))))] [(.int (own_b (((own_pl (0 : Int32) nv) + mv) < (own_ps (0 : Int32) ((((0 : Int32) + (1 : Int32)) + (1 : Int32)) + (1 : Int32)) nv))))])) _
            refine XS.iconst X286.here hx rfl (hb hby at_196) ?_
            have ekZ : (own_b ((0 : Int32) < (((3 : Int32) - mv) - nv))) = (0 : Int32) := by first | (simp only [own_b, eq_false hc288, and_true, true_and, and_false, false_and, or_true, true_or, or_false, false_or, not_true_eq_false, not_false_eq_true, if_true, if_false, reduceIte]; done) | (simp [own_b, hc288]; done)
            rw [ekZ] at kZ
            exact kZ)
        obtain ⟨fsZ, hrZ, hrun, hended, hW, hsame⟩ := X286.leave (v := some (.int (1 : Int32))) (fun h => by rw [Bd.returns] at h; cases h)
        refine ⟨_, _, pre289 _ ?_, hrun, hended, _, _, rfl, ?_, ⟨_, rfl⟩, hW, hsame.mono (by decide) (by decide)⟩
        · show Steps p.tables e below (T286.setTop (mkF m 197 #[.val (.int p0), .val (.int p1), .val (.int p2), .val (.int p3), .val (.int (1 : Int32)), .val (.int (own_b (¬ ((p0 &&& (2 : Int32)) = (0 : Int32))))), .val (.int (3 : Int32)), .val (.int mv), .val (.int nv), .val (.ref b263), .val (.int (own_b ((0 : Int32) < ((((0 : Int32) + (1 : Int32)) + (1 : Int32)) + (1 : Int32))))), .val (.int (own_b (((own_pl (0 : Int32) nv) + mv) < (own_ps (0 : Int32) ((((0 : Int32) + (1 : Int32)) + (1 : Int32)) + (1 : Int32)) nv))))] [(.int (own_b ((0 : Int32) < (((3 : Int32) - mv) - nv)))), (.int (own_b (((own_pl (0 : Int32) nv) + mv) < (own_ps (0 : Int32) ((((0 : Int32) + (1 : Int32)) + (1 : Int32)) + (1 : Int32)) nv))))])) _
          refine XS.icmpNo X286.here hx rfl (hb hby at_197) rfl (teq (own_fin_p (by decide) hm4 hn4 hm3.2.2 hn3.2.2)).2 ?_
          show Steps p.tables e below (T286.setTop (mkF m 200 #[.val (.int p0), .val (.int p1), .val (.int p2), .val (.int p3), .val (.int (1 : Int32)), .val (.int (own_b (¬ ((p0 &&& (2 : Int32)) = (0 : Int32))))), .val (.int (3 : Int32)), .val (.int mv), .val (.int nv), .val (.ref b263), .val (.int (own_b ((0 : Int32) < ((((0 : Int32) + (1 : Int32)) + (1 : Int32)) + (1 : Int32))))), .val (.int (own_b (((own_pl (0 : Int32) nv) + mv) < (own_ps (0 : Int32) ((((0 : Int32) + (1 : Int32)) + (1 : Int32)) + (1 : Int32)) nv))))] [])) _
          refine XS.iconst X286.here hx rfl (hb hby at_200) ?_
          show Steps p.tables e below (T286.setTop (mkF m 201 #[.val (.int p0), .val (.int p1), .val (.int p2), .val (.int p3), .val (.int (1 : Int32)), .val (.int (own_b (¬ ((p0 &&& (2 : Int32)) = (0 : Int32))))), .val (.int (3 : Int32)), .val (.int mv), .val (.int nv), .val (.ref b263), .val (.int (own_b ((0 : Int32) < ((((0 : Int32) + (1 : Int32)) + (1 : Int32)) + (1 : Int32))))), .val (.int (own_b (((own_pl (0 : Int32) nv) + mv) < (own_ps (0 : Int32) ((((0 : Int32) + (1 : Int32)) + (1 : Int32)) + (1 : Int32)) nv))))] [(.int (1 : Int32))])) _
          refine XS.goto X286.here hx rfl (pc0 := 201) (pc' := 205) rfl (hb hby at_201) (by decide) (by decide) ?_
          show Steps p.tables e below (T286.setTop (mkF m 205 #[.val (.int p0), .val (.int p1), .val (.int p2), .val (.int p3), .val (.int (1 : Int32)), .val (.int (own_b (¬ ((p0 &&& (2 : Int32)) = (0 : Int32))))), .val (.int (3 : Int32)), .val (.int mv), .val (.int nv), .val (.ref b263), .val (.int (own_b ((0 : Int32) < ((((0 : Int32) + (1 : Int32)) + (1 : Int32)) + (1 : Int32))))), .val (.int (own_b (((own_pl (0 : Int32) nv) + mv) < (own_ps (0 : Int32) ((((0 : Int32) + (1 : Int32)) + (1 : Int32)) + (1 : Int32)) nv))))] [(.int (1 : Int32))])) _
          exact retN X286 hx (t := .boolean) Bd.returns (by simp) (hb hby at_205) hrZ
        · show Q0 Z p0 p1 p2 p3 h0 n0 _ T286.heap _
          rw [e286]
          exact ⟨rfl, N286⟩
      ·  -- no
        obtain ⟨_, _, ⟨T290, L290, k290, n290⟩, -, X290, ⟨Lc290, hQ290, l290, y290, z290⟩, st290⟩ := Jvm.LawKit.callS X278 hx (y := (⟨oL, "doMarks", "(Lcom/example/portunus/portunus/policy/Run;I)V"⟩ : MethodName)) hown (mvT hZ (ow hw 45 rfl)) (mvT hZ (ow hw 46 rfl)) (mvT hZ (ow hw 47 rfl)) (mvT hZ (ow hw 48 rfl)) (by decide) (backOf (W := 0) (rm8d l Z a0 hw [] b263 mv tk_266 ((((0 : Int32) + (1 : Int32)) + (1 : Int32)) + (1 : Int32)) (0 : Int32) (0 : Int32) kt_267 dd_268 T276.heap n0 Z277 f276_0 f276_1 f276_2 f276_3 f276_4 f276_5 f276_6 gn_b263 u265_0 ne270 f276_7 u265_2 ne271 u265_4 hm4) hZ (ow hw 48 rfl) (ow hw 47 rfl) (by decide) (by decide)) (g := (mkF m 147 #[.val (.int p0), .val (.int p1), .val (.int p2), .val (.int p3), .val (.int (1 : Int32)), .val (.int (own_b (¬ ((p0 &&& (2 : Int32)) = (0 : Int32))))), .val (.int (3 : Int32)), .val (.int mv), .val (.int nv), .val (.ref b263), .val (.int (own_b ((0 : Int32) < ((((0 : Int32) + (1 : Int32)) + (1 : Int32)) + (1 : Int32))))), .unset] [(.int mv), (.ref b263)])) rfl (by rw [hml]; rfl) (argsL := [(.ref b263), (.int mv)]) (rest := []) (lenOf pd9 rfl) rfl (by show 2 * 0 + _ ≤ _; exact Nat.le_of_eq rfl) (hb hby at_147) (fun _ _ => ⟨rfl, e278, (by decide : 3 + 0 ≤ _), (by decide : 21 + 0 ≤ _)⟩)
        dsimp only [Pt.U, Pt.locs, Pt.cells, Pt.slots] at X290 l290 y290 z290 st290 hQ290
        subst l290 y290 z290
        obtain ⟨rfl, N290q, K290, f290_0, f290_1, f290_2, f290_3, f290_4, f290_5, f290_6, f290_7⟩ := hQ290
        have N290 := Fr.app N278 N290q
        have Z291 : n0 ≤ T290.heap.size := Nat.le_trans Z277 K290.1
        obtain ⟨_, _, ⟨T292, L292, k292, n292⟩, -, X292, ⟨Lc292, hQ292, l292, y292, z292⟩, st292⟩ := Jvm.LawKit.callS X290 hx (y := (⟨oL, "doPolls", "(Lcom/example/portunus/portunus/policy/Run;I)V"⟩ : MethodName)) hown (mvT hZ (ow hw 54 rfl)) (mvT hZ (ow hw 55 rfl)) (mvT hZ (ow hw 47 rfl)) (mvT hZ (ow hw 56 rfl)) (by decide) (backOf (W := 0) (rm10d l Z a0 hw [] b263 nv tk_266 ((((0 : Int32) + (1 : Int32)) + (1 : Int32)) + (1 : Int32)) ((0 : Int32) + mv) (0 : Int32) kt_267 dd_268 T290.heap n0 Z291 f290_0 f290_1 f290_2 f290_3 f290_4 f290_5 f290_6 gn_b263 u265_0 ne270 f290_7 u265_2 ne271 u265_4 hn4 (own_nz1 hm4)) hZ (ow hw 56 rfl) (ow hw 47 rfl) (by decide) (by decide)) (g := (mkF m 154 #[.val (.int p0), .val (.int p1), .val (.int p2), .val (.int p3), .val (.int (1 : Int32)), .val (.int (own_b (¬ ((p0 &&& (2 : Int32)) = (0 : Int32))))), .val (.int (3 : Int32)), .val (.int mv), .val (.int nv), .val (.ref b263), .val (.int (own_b ((0 : Int32) < ((((0 : Int32) + (1 : Int32)) + (1 : Int32)) + (1 : Int32))))), .unset] [(.int nv), (.ref b263)])) rfl (by rw [hml]; rfl) (argsL := [(.ref b263), (.int nv)]) (rest := []) (lenOf pd9 rfl) rfl (by show 2 * 0 + _ ≤ _; exact Nat.le_of_eq rfl) (hb hby at_154) (fun _ _ => ⟨rfl, rfl, (by decide : 3 + 0 ≤ _), (by decide : 21 + 0 ≤ _)⟩)
        dsimp only [Pt.U, Pt.locs, Pt.cells, Pt.slots] at X292 l292 y292 z292 st292 hQ292
        subst l292 y292 z292
        obtain ⟨fn_293, rfl, N292q, K292, f292_0, f292_1, f292_2, f292_3, f292_4, f292_5, f292_6, f292_7⟩ := hQ292
        have N292 := Fr.app N290 N292q
        have Z294 : n0 ≤ T292.heap.size := Nat.le_trans Z291 K292.1
        obtain ⟨cq295, kq295, q295a, q295b, q295c⟩ := isOf hZ rfl f292_0
        obtain ⟨_, _, ⟨T295, L295, k295, n295⟩, -, X295, ⟨Lc295, hQ295, l295, y295, z295⟩, st295⟩ := X292.virtualBack hx (y := (⟨oR, "hasOther", "()Z"⟩ : MethodName)) (z := (⟨oR, "hasOther", "()Z"⟩ : MethodName)) hown (mvT hZ (ow hw 38 rfl)) (mvT hZ (ow hw 39 rfl)) (notFace_of_selects (args := #[]) (mvT hZ (ow hw 41 rfl))) (mvT hZ (ow hw 41 rfl)) (mvT hZ (ow hw 40 rfl)) (by decide) (backOf (W := 0) (rm7 l Z a0 hw [] b263 (own_ps ((0 : Int32) + mv) ((((0 : Int32) + (1 : Int32)) + (1 : Int32)) + (1 : Int32)) nv) (own_pl ((0 : Int32) + mv) nv) T292.heap n0 Z294 f292_3 f292_4) hZ (ow hw 42 rfl) (ow hw 7 rfl) (by decide) (by decide)) q295a q295c (g := (mkF m 159 #[.val (.int p0), .val (.int p1), .val (.int p2), .val (.int p3), .val (.int (1 : Int32)), .val (.int (own_b (¬ ((p0 &&& (2 : Int32)) = (0 : Int32))))), .val (.int (3 : Int32)), .val (.int mv), .val (.int nv), .val (.ref b263), .val (.int (own_b ((0 : Int32) < ((((0 : Int32) + (1 : Int32)) + (1 : Int32)) + (1 : Int32))))), .unset] [(.ref b263)])) rfl (by rw [hml]; rfl) (Steps.refl _) (argsL := []) (rest := []) (lenOf pd8 rfl) rfl (by show 2 * 0 + _ ≤ _; exact Nat.le_of_eq rfl) (hb hby at_159) (fun _ _ => ⟨rfl, rfl, (by decide : 3 + 0 ≤ _), (by decide : 21 + 0 ≤ _)⟩)
        dsimp only [Pt.U, Pt.locs, Pt.cells, Pt.slots] at X295 l295 y295 z295 st295 hQ295
        subst l295 y295 z295
        obtain ⟨rfl, N295q, e295⟩ := hQ295
        have N295 := Fr.app N292 N295q
        have pre296 : ∀ tZ, Steps p.tables e below (T295.setTop (mkF m 189 #[.val (.int p0), .val (.int p1), .val (.int p2), .val (.int p3), .val (.int (1 : Int32)), .val (.int (own_b (¬ ((p0 &&& (2 : Int32)) = (0 : Int32))))), .val (.int (3 : Int32)), .val (.int mv), .val (.int nv), .val (.ref b263), .val (.int (own_b ((0 : Int32) < ((((0 : Int32) + (1 : Int32)) + (1 : Int32)) + (1 : Int32))))), .val (.int (own_b ((own_pl ((0 : Int32) + mv) nv) < (own_ps ((0 : Int32) + mv) ((((0 : Int32) + (1 : Int32)) + (1 : Int32)) + (1 : Int32)) nv))))] [(.int (((3 : Int32) - mv) - nv)), (.int (own_b ((own_pl ((0 : Int32) + mv) nv) < (own_ps ((0 : Int32) + mv) ((((0 : Int32) + (1 : Int32)) + (1 : Int32)) + (1 : Int32)) nv))))])) tZ → Steps p.tables e below (s₁.setTop (entryFrame m #[(.int p0), (.int p1), (.int p2), (.int p3)] maxLocals)) tZ := fun tZ kZ => pre279 tZ (by
          show Steps p.tables e below (T278.setTop (mkF m 123 #[.val (.int p0), .val (.int p1), .val (.int p2), .val (.int p3), .val (.int (1 : Int32)), .val (.int (own_b (¬ ((p0 &&& (2 : Int32)) = (0 : Int32))))), .val (.int (3 : Int32)), .val (.int mv), .val (.int nv), .val (.ref b263), .val (.int (own_b ((0 : Int32) < ((((0 : Int32) + (1 : Int32)) + (1 : Int32)) + (1 : Int32))))), .unset] [(.int (own_b (¬ ((p0 &&& (2 : Int32)) = (0 : Int32)))))])) _
          refine XS.ifYes X278.here hx rfl (pc0 := 123) (pc' := 143) rfl (hb hby at_123) rfl ((if0 _ _).trans (teq (own_b_f hc280)).1) (by decide) (by decide) ?_
          show Steps p.tables e below (T278.setTop (mkF m 143 #[.val (.int p0), .val (.int p1), .val (.int p2), .val (.int p3), .val (.int (1 : Int32)), .val (.int (own_b (¬ ((p0 &&& (2 : Int32)) = (0 : Int32))))), .val (.int (3 : Int32)), .val (.int mv), .val (.int nv), .val (.ref b263), .val (.int (own_b ((0 : Int32) < ((((0 : Int32) + (1 : Int32)) + (1 : Int32)) + (1 : Int32))))), .unset] [])) _
          refine XS.aload X278.here hx rfl (hb hby at_143) rfl rfl ?_
          show Steps p.tables e below (T278.setTop (mkF m 145 #[.val (.int p0), .val (.int p1), .val (.int p2), .val (.int p3), .val (.int (1 : Int32)), .val (.int (own_b (¬ ((p0 &&& (2 : Int32)) = (0 : Int32))))), .val (.int (3 : Int32)), .val (.int mv), .val (.int nv), .val (.ref b263), .val (.int (own_b ((0 : Int32) < ((((0 : Int32) + (1 : Int32)) + (1 : Int32)) + (1 : Int32))))), .unset] [(.ref b263)])) _
          refine XS.iload X278.here hx rfl (hb hby at_145) rfl  ?_
          show Steps p.tables e below (T278.setTop (mkF m 147 #[.val (.int p0), .val (.int p1), .val (.int p2), .val (.int p3), .val (.int (1 : Int32)), .val (.int (own_b (¬ ((p0 &&& (2 : Int32)) = (0 : Int32))))), .val (.int (3 : Int32)), .val (.int mv), .val (.int nv), .val (.ref b263), .val (.int (own_b ((0 : Int32) < ((((0 : Int32) + (1 : Int32)) + (1 : Int32)) + (1 : Int32))))), .unset] [(.int mv), (.ref b263)])) _
          refine st290 _ ?_
          show Steps p.tables e below (T290.setTop (mkF m 150 #[.val (.int p0), .val (.int p1), .val (.int p2), .val (.int p3), .val (.int (1 : Int32)), .val (.int (own_b (¬ ((p0 &&& (2 : Int32)) = (0 : Int32))))), .val (.int (3 : Int32)), .val (.int mv), .val (.int nv), .val (.ref b263), .val (.int (own_b ((0 : Int32) < ((((0 : Int32) + (1 : Int32)) + (1 : Int32)) + (1 : Int32))))), .unset] [])) _
          refine XS.aload X290.here hx rfl (hb hby at_150) rfl rfl ?_
          show Steps p.tables e below (T290.setTop (mkF m 152 #[.val (.int p0), .val (.int p1), .val (.int p2), .val (.int p3), .val (.int (1 : Int32)), .val (.int (own_b (¬ ((p0 &&& (2 : Int32)) = (0 : Int32))))), .val (.int (3 : Int32)), .val (.int mv), .val (.int nv), .val (.ref b263), .val (.int (own_b ((0 : Int32) < ((((0 : Int32) + (1 : Int32)) + (1 : Int32)) + (1 : Int32))))), .unset] [(.ref b263)])) _
          refine XS.iload X290.here hx rfl (hb hby at_152) rfl  ?_
          show Steps p.tables e below (T290.setTop (mkF m 154 #[.val (.int p0), .val (.int p1), .val (.int p2), .val (.int p3), .val (.int (1 : Int32)), .val (.int (own_b (¬ ((p0 &&& (2 : Int32)) = (0 : Int32))))), .val (.int (3 : Int32)), .val (.int mv), .val (.int nv), .val (.ref b263), .val (.int (own_b ((0 : Int32) < ((((0 : Int32) + (1 : Int32)) + (1 : Int32)) + (1 : Int32))))), .unset] [(.int nv), (.ref b263)])) _
          refine st292 _ ?_
          show Steps p.tables e below (T292.setTop (mkF m 157 #[.val (.int p0), .val (.int p1), .val (.int p2), .val (.int p3), .val (.int (1 : Int32)), .val (.int (own_b (¬ ((p0 &&& (2 : Int32)) = (0 : Int32))))), .val (.int (3 : Int32)), .val (.int mv), .val (.int nv), .val (.ref b263), .val (.int (own_b ((0 : Int32) < ((((0 : Int32) + (1 : Int32)) + (1 : Int32)) + (1 : Int32))))), .unset] [])) _
          refine XS.aload X292.here hx rfl (hb hby at_157) rfl rfl ?_
          show Steps p.tables e below (T292.setTop (mkF m 159 #[.val (.int p0), .val (.int p1), .val (.int p2), .val (.int p3), .val (.int (1 : Int32)), .val (.int (own_b (¬ ((p0 &&& (2 : Int32)) = (0 : Int32))))), .val (.int (3 : Int32)), .val (.int mv), .val (.int nv), .val (.ref b263), .val (.int (own_b ((0 : Int32) < ((((0 : Int32) + (1 : Int32)) + (1 : Int32)) + (1 : Int32))))), .unset] [(.ref b263)])) _
          refine st295.trans ?_
          show Steps p.tables e below (T295.setTop (mkF m 162 #[.val (.int p0), .val (.int p1), .val (.int p2), .val (.int p3), .val (.int (1 : Int32)), .val (.int (own_b (¬ ((p0 &&& (2 : Int32)) = (0 : Int32))))), .val (.int (3 : Int32)), .val (.int mv), .val (.int nv), .val (.ref b263), .val (.int (own_b ((0 : Int32) < ((((0 : Int32) + (1 : Int32)) + (1 : Int32)) + (1 : Int32))))), .unset] [(.int (own_b ((own_pl ((0 : Int32) + mv) nv) < (own_ps ((0 : Int32) + mv) ((((0 : Int32) + (1 : Int32)) + (1 : Int32)) + (1 : Int32)) nv))))])) _
          refine XS.istore X295.here hx rfl (hb hby at_162) rfl (l' := #[.val (.int p0), .val (.int p1), .val (.int p2), .val (.int p3), .val (.int (1 : Int32)), .val (.int (own_b (¬ ((p0 &&& (2 : Int32)) = (0 : Int32))))), .val (.int (3 : Int32)), .val (.int mv), .val (.int nv), .val (.ref b263), .val (.int (own_b ((0 : Int32) < ((((0 : Int32) + (1 : Int32)) + (1 : Int32)) + (1 : Int32))))), .val (.int (own_b ((own_pl ((0 : Int32) + mv) nv) < (own_ps ((0 : Int32) + mv) ((((0 : Int32) + (1 : Int32)) + (1 : Int32)) + (1 : Int32)) nv))))]) rfl ?_
          show Steps p.tables e below (T295.setTop (mkF m 164 #[.val (.int p0), .val (.int p1), .val (.int p2), .val (.int p3), .val (.int (1 : Int32)), .val (.int (own_b (¬ ((p0 &&& (2 : Int32)) = (0 : Int32))))), .val (.int (3 : Int32)), .val (.int mv), .val (.int nv), .val (.ref b263), .val (.int (own_b ((0 : Int32) < ((((0 : Int32) + (1 : Int32)) + (1 : Int32)) + (1 : Int32))))), .val (.int (own_b ((own_pl ((0 : Int32) + mv) nv) < (own_ps ((0 : Int32) + mv) ((((0 : Int32) + (1 : Int32)) + (1 : Int32)) + (1 : Int32)) nv))))] [])) _
          refine XS.iload X295.here hx rfl (hb hby at_164) rfl  ?_
          show Steps p.tables e below (T295.setTop (mkF m 166 #[.val (.int p0), .val (.int p1), .val (.int p2), .val (.int p3), .val (.int (1 : Int32)), .val (.int (own_b (¬ ((p0 &&& (2 : Int32)) = (0 : Int32))))), .val (.int (3 : Int32)), .val (.int mv), .val (.int nv), .val (.ref b263), .val (.int (own_b ((0 : Int32) < ((((0 : Int32) + (1 : Int32)) + (1 : Int32)) + (1 : Int32))))), .val (.int (own_b ((own_pl ((0 : Int32) + mv) nv) < (own_ps ((0 : Int32) + mv) ((((0 : Int32) + (1 : Int32)) + (1 : Int32)) + (1 : Int32)) nv))))] [(.int (own_b ((0 : Int32) < ((((0 : Int32) + (1 : Int32)) + (1 : Int32)) + (1 : Int32)))))])) _
          refine XS.iload X295.here hx rfl (hb hby at_166) rfl  ?_
          show Steps p.tables e below (T295.setTop (mkF m 168 #[.val (.int p0), .val (.int p1), .val (.int p2), .val (.int p3), .val (.int (1 : Int32)), .val (.int (own_b (¬ ((p0 &&& (2 : Int32)) = (0 : Int32))))), .val (.int (3 : Int32)), .val (.int mv), .val (.int nv), .val (.ref b263), .val (.int (own_b ((0 : Int32) < ((((0 : Int32) + (1 : Int32)) + (1 : Int32)) + (1 : Int32))))), .val (.int (own_b ((own_pl ((0 : Int32) + mv) nv) < (own_ps ((0 : Int32) + mv) ((((0 : Int32) + (1 : Int32)) + (1 : Int32)) + (1 : Int32)) nv))))] [(.int (3 : Int32)), (.int (own_b ((0 : Int32) < ((((0 : Int32) + (1 : Int32)) + (1 : Int32)) + (1 : Int32)))))])) _
          refine XS.ifNo X295.here hx rfl (hb hby at_168) rfl ((if0 _ _).trans (tlt (by decide)).2.2.2) ?_
          show Steps p.tables e below (T295.setTop (mkF m 171 #[.val (.int p0), .val (.int p1), .val (.int p2), .val (.int p3), .val (.int (1 : Int32)), .val (.int (own_b (¬ ((p0 &&& (2 : Int32)) = (0 : Int32))))), .val (.int (3 : Int32)), .val (.int mv), .val (.int nv), .val (.ref b263), .val (.int (own_b ((0 : Int32) < ((((0 : Int32) + (1 : Int32)) + (1 : Int32)) + (1 : Int32))))), .val (.int (own_b ((own_pl ((0 : Int32) + mv) nv) < (own_ps ((0 : Int32) + mv) ((((0 : Int32) + (1 : Int32)) + (1 : Int32)) + (1 : Int32)) nv))))] [(.int (own_b ((0 : Int32) < ((((0 : Int32) + (1 : Int32)) + (1 : Int32)) + (1 : Int32)))))])) _
          refine XS.iconst X295.here hx rfl (hb hby at_171) ?_
          show Steps p.tables e below (T295.setTop (mkF m 172 #[.val (.int p0), .val (.int p1), .val (.int p2), .val (.int p3), .val (.int (1 : Int32)), .val (.int (own_b (¬ ((p0 &&& (2 : Int32)) = (0 : Int32))))), .val (.int (3 : Int32)), .val (.int mv), .val (.int nv), .val (.ref b263), .val (.int (own_b ((0 : Int32) < ((((0 : Int32) + (1 : Int32)) + (1 : Int32)) + (1 : Int32))))), .val (.int (own_b ((own_pl ((0 : Int32) + mv) nv) < (own_ps ((0 : Int32) + mv) ((((0 : Int32) + (1 : Int32)) + (1 : Int32)) + (1 : Int32)) nv))))] [(.int (1 : Int32)), (.int (own_b ((0 : Int32) < ((((0 : Int32) + (1 : Int32)) + (1 : Int32)) + (1 : Int32)))))])) _
          refine XS.goto X295.here hx rfl (pc0 := 172) (pc' := 176) rfl (hb hby at_172) (by decide) (by decide) ?_
          show Steps p.tables e below (T295.setTop (mkF m 176 #[.val (.int p0), .val (.int p1), .val (.int p2), .val (.int p3), .val (.int (1 : Int32)), .val (.int (own_b (¬ ((p0 &&& (2 : Int32)) = (0 : Int32))))), .val (.int (3 : Int32)), .val (.int mv), .val (.int nv), .val (.ref b263), .val (.int (own_b ((0 : Int32) < ((((0 : Int32) + (1 : Int32)) + (1 : Int32)) + (1 : Int32))))), .val (.int (own_b ((own_pl ((0 : Int32) + mv) nv) < (own_ps ((0 : Int32) + mv) ((((0 : Int32) + (1 : Int32)) + (1 : Int32)) + (1 : Int32)) nv))))] [(.int (1 : Int32)), (.int (own_b ((0 : Int32) < ((((0 : Int32) + (1 : Int32)) + (1 : Int32)) + (1 : Int32)))))])) _
          refine XS.icmpNo X295.here hx rfl (hb hby at_176) rfl (teq (by decide)).2 ?_
          show Steps p.tables e below (T295.setTop (mkF m 179 #[.val (.int p0), .val (.int p1), .val (.int p2), .val (.int p3), .val (.int (1 : Int32)), .val (.int (own_b (¬ ((p0 &&& (2 : Int32)) = (0 : Int32))))), .val (.int (3 : Int32)), .val (.int mv), .val (.int nv), .val (.ref b263), .val (.int (own_b ((0 : Int32) < ((((0 : Int32) + (1 : Int32)) + (1 : Int32)) + (1 : Int32))))), .val (.int (own_b ((own_pl ((0 : Int32) + mv) nv) < (own_ps ((0 : Int32) + mv) ((((0 : Int32) + (1 : Int32)) + (1 : Int32)) + (1 : Int32)) nv))))] [])) _
          refine XS.iload X295.here hx rfl (hb hby at_179) rfl  ?_
          show Steps p.tables e below (T295.setTop (mkF m 181 #[.val (.int p0), .val (.int p1), .val (.int p2), .val (.int p3), .val (.int (1 : Int32)), .val (.int (own_b (¬ ((p0 &&& (2 : Int32)) = (0 : Int32))))), .val (.int (3 : Int32)), .val (.int mv), .val (.int nv), .val (.ref b263), .val (.int (own_b ((0 : Int32) < ((((0 : Int32) + (1 : Int32)) + (1 : Int32)) + (1 : Int32))))), .val (.int (own_b ((own_pl ((0 : Int32) + mv) nv) < (own_ps ((0 : Int32) + mv) ((((0 : Int32) + (1 : Int32)) + (1 : Int32)) + (1 : Int32)) nv))))] [(.int (own_b ((own_pl ((0 : Int32) + mv) nv) < (own_ps ((0 : Int32) + mv) ((((0 : Int32) + (1 : Int32)) + (1 : Int32)) + (1 : Int32)) nv))))])) _
          refine XS.iload X295.here hx rfl (hb hby at_181) rfl  ?_
          show Steps p.tables e below (T295.setTop (mkF m 183 #[.val (.int p0), .val (.int p1), .val (.int p2), .val (.int p3), .val (.int (1 : Int32)), .val (.int (own_b (¬ ((p0 &&& (2 : Int32)) = (0 : Int32))))), .val (.int (3 : Int32)), .val (.int mv), .val (.int nv), .val (.ref b263), .val (.int (own_b ((0 : Int32) < ((((0 : Int32) + (1 : Int32)) + (1 : Int32)) + (1 : Int32))))), .val (.int (own_b ((own_pl ((0 : Int32) + mv) nv) < (own_ps ((0 : Int32) + mv) ((((0 : Int32) + (1 : Int32)) + (1 : Int32)) + (1 : Int32)) nv))))] [(.int (3 : Int32)), (.int (own_b ((own_pl ((0 : Int32) + mv) nv) < (own_ps ((0 : Int32) + mv) ((((0 : Int32) + (1 : Int32)) + (1 : Int32)) + (1 : Int32)) nv))))])) _
          refine XS.iload X295.here hx rfl (hb hby at_183) rfl  ?_
          show Steps p.tables e below (T295.setTop (mkF m 185 #[.val (.int p0), .val (.int p1), .val (.int p2), .val (.int p3), .val (.int (1 : Int32)), .val (.int (own_b (¬ ((p0 &&& (2 : Int32)) = (0 : Int32))))), .val (.int (3 : Int32)), .val (.int mv), .val (.int nv), .val (.ref b263), .val (.int (own_b ((0 : Int32) < ((((0 : Int32) + (1 : Int32)) + (1 : Int32)) + (1 : Int32))))), .val (.int (own_b ((own_pl ((0 : Int32) + mv) nv) < (own_ps ((0 : Int32) + mv) ((((0 : Int32) + (1 : Int32)) + (1 : Int32)) + (1 : Int32)) nv))))] [(.int mv), (.int (3 : Int32)), (.int (own_b ((own_pl ((0 : Int32) + mv) nv) < (own_ps ((0 : Int32) + mv) ((((0 : Int32) + (1 : Int32)) + (1 : Int32)) + (1 : Int32)) nv))))])) _
          refine XS.isub X295.here hx rfl (hb hby at_185) rfl ?_
          show Steps p.tables e below (T295.setTop (mkF m 186 #[.val (.int p0), .val (.int p1), .val (.int p2), .val (.int p3), .val (.int (1 : Int32)), .val (.int (own_b (¬ ((p0 &&& (2 : Int32)) = (0 : Int32))))), .val (.int (3 : Int32)), .val (.int mv), .val (.int nv), .val (.ref b263), .val (.int (own_b ((0 : Int32) < ((((0 : Int32) + (1 : Int32)) + (1 : Int32)) + (1 : Int32))))), .val (.int (own_b ((own_pl ((0 : Int32) + mv) nv) < (own_ps ((0 : Int32) + mv) ((((0 : Int32) + (1 : Int32)) + (1 : Int32)) + (1 : Int32)) nv))))] [(.int ((3 : Int32) - mv)), (.int (own_b ((own_pl ((0 : Int32) + mv) nv) < (own_ps ((0 : Int32) + mv) ((((0 : Int32) + (1 : Int32)) + (1 : Int32)) + (1 : Int32)) nv))))])) _
          refine XS.iload X295.here hx rfl (hb hby at_186) rfl  ?_
          show Steps p.tables e below (T295.setTop (mkF m 188 #[.val (.int p0), .val (.int p1), .val (.int p2), .val (.int p3), .val (.int (1 : Int32)), .val (.int (own_b (¬ ((p0 &&& (2 : Int32)) = (0 : Int32))))), .val (.int (3 : Int32)), .val (.int mv), .val (.int nv), .val (.ref b263), .val (.int (own_b ((0 : Int32) < ((((0 : Int32) + (1 : Int32)) + (1 : Int32)) + (1 : Int32))))), .val (.int (own_b ((own_pl ((0 : Int32) + mv) nv) < (own_ps ((0 : Int32) + mv) ((((0 : Int32) + (1 : Int32)) + (1 : Int32)) + (1 : Int32)) nv))))] [(.int nv), (.int ((3 : Int32) - mv)), (.int (own_b ((own_pl ((0 : Int32) + mv) nv) < (own_ps ((0 : Int32) + mv) ((((0 : Int32) + (1 : Int32)) + (1 : Int32)) + (1 : Int32)) nv))))])) _
          refine XS.isub X295.here hx rfl (hb hby at_188) rfl ?_
          exact kZ)
        have pre298 : ∀ tZ, Steps p.tables e below (T295.setTop (mkF m 197 #[.val (.int p0), .val (.int p1), .val (.int p2), .val (.int p3), .val (.int (1 : Int32)), .val (.int (own_b (¬ ((p0 &&& (2 : Int32)) = (0 : Int32))))), .val (.int (3 : Int32)), .val (.int mv), .val (.int nv), .val (.ref b263), .val (.int (own_b ((0 : Int32) < ((((0 : Int32) + (1 : Int32)) + (1 : Int32)) + (1 : Int32))))), .val (.int (own_b ((own_pl ((0 : Int32) + mv) nv) < (own_ps ((0 : Int32) + mv) ((((0 : Int32) + (1 : Int32)) + (1 : Int32)) + (1 : Int32)) nv))))] [(.int (own_b ((0 : Int32) < (((3 : Int32) - mv) - nv)))), (.int (own_b ((own_pl ((0 : Int32) + mv) nv) < (own_ps ((0 : Int32) + mv) ((((0 : Int32) + (1 : Int32)) + (1 : Int32)) + (1 : Int32)) nv))))])) tZ → Steps p.tables e below (s₁.setTop (entryFrame m #[(.int p0), (.int p1), (.int p2), (.int p3)] maxLocals)) tZ := fun tZ kZ => pre296 tZ (by
          by_cases hc297 : (0 : Int32) < (((3 : Int32) - mv) - nv)
          ·  -- yes
            show Steps p.tables e below (T295.setTop (mkF m 189 #[.val (.int p0), .val (.int p1), .val (.int p2), .val (.int p3), .val (.int (1 : Int32)), .val (.int (own_b (¬ ((p0 &&& (2 : Int32)) = (0 : Int32))))), .val (.int (3 : Int32)), .val (.int mv), .val (.int nv), .val (.ref b263), .val (.int (own_b ((0 : Int32) < ((((0 : Int32) + (1 : Int32)) + (1 : Int32)) + (1 : Int32))))), .val (.int (own_b ((own_pl ((0 : Int32) + mv) nv) < (own_ps ((0 : Int32) + mv) ((((0 : Int32) + (1 : Int32)) + (1 : Int32)) + (1 : Int32)) nv))))] [(.int (((3 : Int32) - mv) - nv)), (.int (own_b ((own_pl ((0 : Int32) + mv) nv) < (own_ps ((0 : Int32) + mv) ((((0 : Int32) + (1 : Int32)) + (1 : Int32)) + (1 : Int32)) nv))))])) _
            refine XS.ifNo X295.here hx rfl (hb hby at_189) rfl ((if0 _ _).trans (tlt hc297).2.2.2) ?_
            show Steps p.tables e below (T295.setTop (mkF m 192 #[.val (.int p0), .val (.int p1), .val (.int p2), .val (.int p3), .val (.int (1 : Int32)), .val (.int (own_b (¬ ((p0 &&& (2 : Int32)) = (0 : Int32))))), .val (.int (3 : Int32)), .val (.int mv), .val (.int nv), .val (.ref b263), .val (.int (own_b ((0 : Int32) < ((((0 : Int32) + (1 : Int32)) + (1 : Int32)) + (1 : Int32))))), .val (.int (own_b ((own_pl ((0 : Int32) + mv) nv) < (own_ps ((0 : Int32) + mv) ((((0 : Int32) + (1 : Int32)) + (1 : Int32)) + (1 : Int32)) nv))))] [(.int (own_b ((own_pl ((0 : Int32) + mv) nv) < (own_ps ((0 : Int32) + mv) ((((0 : Int32) + (1 : Int32)) + (1 : Int32)) + (1 : Int32)) nv))))])) _
            refine XS.iconst X295.here hx rfl (hb hby at_192) ?_
            show Steps p.tables e below (T295.setTop (mkF m 193 #[.val (.int p0), .val (.int p1), .val (.int p2), .val (.int p3), .val (.int (1 : Int32)), .val (.int (own_b (¬ ((p0 &&& (2 : Int32)) = (0 : Int32))))), .val (.int (3 : Int32)), .val (.int mv), .val (.int nv), .val (.ref b263), .val (.int (own_b ((0 : Int32) < ((((0 : Int32) + (1 : Int32)) + (1 : Int32)) + (1 : Int32))))), .val (.int (own_b ((own_pl ((0 : Int32) + mv) nv) < (own_ps ((0 : Int32) + mv) ((((0 : Int32) + (1 : Int32)) + (1 : Int32)) + (1 : Int32)) nv))))] [(.int (1 : Int32)), (.int (own_b ((own_pl ((0 : Int32) + mv) nv) < (own_ps ((0 : Int32) + mv) ((((0 : Int32) + (1 : Int32)) + (1 : Int32)) + (1 : Int32)) nv))))])) _
            refine XS.goto X295.here hx rfl (pc0 := 193) (pc' := 197) rfl (hb hby at_193) (by decide) (by decide) ?_
            have ekZ : (own_b ((0 : Int32) < (((3 : Int32) - mv) - nv))) = (1 : Int32) := by first | (simp only [own_b, eq_true hc297, and_true, true_and, and_false, false_and, or_true, true_or, or_false, false_or, not_true_eq_false, not_false_eq_true, if_true, if_false, reduceIte]; done) | (simp [own_b, hc297]; done)
            rw [ekZ] at kZ
            exact kZ
          ·  -- no
            show Steps p.tables e below (T295.setTop (mkF m 189 #[.val (.int p0), .val (.int p1), .val (.int p2), .val (.int p3), .val (.int (1 : Int32)), .val (.int (own_b (¬ ((p0 &&& (2 : Int32)) = (0 : Int32))))), .val (.int (3 : Int32)), .val (.int mv), .val (.int nv), .val (.ref b263), .val (.int (own_b ((0 : Int32) < ((((0 : Int32) + (1 : Int32)) + (1 : Int32)) + (1 : Int32))))), .val (.int (own_b ((own_pl ((0 : Int32) + mv) nv) < (own_ps ((0 : Int32) + mv) ((((0 : Int32) + (1 : Int32)) + (1 : Int32)) + (1 : Int32)) nv))))] [(.int (((3 : Int32) - mv) - nv)), (.int (own_b ((own_pl ((0 : Int32) + mv) nv) < (own_ps ((0 : Int32) + mv) ((((0 : Int32) + (1 : Int32)) + (1 : Int32)) + (1 : Int32)) nv))))])) _
            refine XS.ifYes X295.here hx rfl (pc0 := 189) (pc' := 196) rfl (hb hby at_189) rfl ((if0 _ _).trans (flt hc297).2.2.2) (by decide) (by decide) ?_
            show Steps p.tables e below (T295.setTop (mkF m 196 #[.val (.int p0), .val (.int p1), .val (.int p2), .val (.int p3), .val (.int (1 : Int32)), .val (.int (own_b (¬ ((p0 &&& (2 : Int32)) = (0 : Int32))))), .val (.int (3 : Int32)), .val (.int mv), .val (.int nv), .val (.ref b263), .val (.int (own_b ((0 : Int32) < ((((0 : Int32) + (1 : Int32)) + (1 : Int32)) + (1 : Int32))))), .val (.int (own_b ((own_pl ((0 : Int32) + mv) nv) < (own_ps ((0 : Int32) + mv) ((((0 : Int32) + (1 : Int32)) + (1 : Int32)) + (1 : Int32)) nv))))] [(.int (own_b ((own_pl ((0 : Int32) + mv) nv) < (own_ps ((0 : Int32) + mv) ((((0 : Int32) + (1 : Int32)) + (1 : Int32)) + (1 : Int32)) nv))))])) _
            refine XS.iconst X295.here hx rfl (hb hby at_196) ?_
            have ekZ : (own_b ((0 : Int32) < (((3 : Int32) - mv) - nv))) = (0 : Int32) := by first | (simp only [own_b, eq_false hc297, and_true, true_and, and_false, false_and, or_true, true_or, or_false, false_or, not_true_eq_false, not_false_eq_true, if_true, if_false, reduceIte]; done) | (simp [own_b, hc297]; done)
            rw [ekZ] at kZ
            exact kZ)
        obtain ⟨fsZ, hrZ, hrun, hended, hW, hsame⟩ := X295.leave (v := some (.int (1 : Int32))) (fun h => by rw [Bd.returns] at h; cases h)
        refine ⟨_, _, pre298 _ ?_, hrun, hended, _, _, rfl, ?_, ⟨_, rfl⟩, hW, hsame.mono (by decide) (by decide)⟩
        · show Steps p.tables e below (T295.setTop (mkF m 197 #[.val (.int p0), .val (.int p1), .val (.int p2), .val (.int p3), .val (.int (1 : Int32)), .val (.int (own_b (¬ ((p0 &&& (2 : Int32)) = (0 : Int32))))), .val (.int (3 : Int32)), .val (.int mv), .val (.int nv), .val (.ref b263), .val (.int (own_b ((0 : Int32) < ((((0 : Int32) + (1 : Int32)) + (1 : Int32)) + (1 : Int32))))), .val (.int (own_b ((own_pl ((0 : Int32) + mv) nv) < (own_ps ((0 : Int32) + mv) ((((0 : Int32) + (1 : Int32)) + (1 : Int32)) + (1 : Int32)) nv))))] [(.int (own_b ((0 : Int32) < (((3 : Int32) - mv) - nv)))), (.int (own_b ((own_pl ((0 : Int32) + mv) nv) < (own_ps ((0 : Int32) + mv) ((((0 : Int32) + (1 : Int32)) + (1 : Int32)) + (1 : Int32)) nv))))])) _
          refine XS.icmpNo X295.here hx rfl (hb hby at_197) rfl (teq (own_fin_m (by decide) hm4 hn4 hm3.2.2 hn3.2.2)).2 ?_
          show Steps p.tables e below (T295.setTop (mkF m 200 #[.val (.int p0), .val (.int p1), .val (.int p2), .val (.int p3), .val (.int (1 : Int32)), .val (.int (own_b (¬ ((p0 &&& (2 : Int32)) = (0 : Int32))))), .val (.int (3 : Int32)), .val (.int mv), .val (.int nv), .val (.ref b263), .val (.int (own_b ((0 : Int32) < ((((0 : Int32) + (1 : Int32)) + (1 : Int32)) + (1 : Int32))))), .val (.int (own_b ((own_pl ((0 : Int32) + mv) nv) < (own_ps ((0 : Int32) + mv) ((((0 : Int32) + (1 : Int32)) + (1 : Int32)) + (1 : Int32)) nv))))] [])) _
          refine XS.iconst X295.here hx rfl (hb hby at_200) ?_
          show Steps p.tables e below (T295.setTop (mkF m 201 #[.val (.int p0), .val (.int p1), .val (.int p2), .val (.int p3), .val (.int (1 : Int32)), .val (.int (own_b (¬ ((p0 &&& (2 : Int32)) = (0 : Int32))))), .val (.int (3 : Int32)), .val (.int mv), .val (.int nv), .val (.ref b263), .val (.int (own_b ((0 : Int32) < ((((0 : Int32) + (1 : Int32)) + (1 : Int32)) + (1 : Int32))))), .val (.int (own_b ((own_pl ((0 : Int32) + mv) nv) < (own_ps ((0 : Int32) + mv) ((((0 : Int32) + (1 : Int32)) + (1 : Int32)) + (1 : Int32)) nv))))] [(.int (1 : Int32))])) _
          refine XS.goto X295.here hx rfl (pc0 := 201) (pc' := 205) rfl (hb hby at_201) (by decide) (by decide) ?_
          show Steps p.tables e below (T295.setTop (mkF m 205 #[.val (.int p0), .val (.int p1), .val (.int p2), .val (.int p3), .val (.int (1 : Int32)), .val (.int (own_b (¬ ((p0 &&& (2 : Int32)) = (0 : Int32))))), .val (.int (3 : Int32)), .val (.int mv), .val (.int nv), .val (.ref b263), .val (.int (own_b ((0 : Int32) < ((((0 : Int32) + (1 : Int32)) + (1 : Int32)) + (1 : Int32))))), .val (.int (own_b ((own_pl ((0 : Int32) + mv) nv) < (own_ps ((0 : Int32) + mv) ((((0 : Int32) + (1 : Int32)) + (1 : Int32)) + (1 : Int32)) nv))))] [(.int (1 : Int32))])) _
          exact retN X295 hx (t := .boolean) Bd.returns (by simp) (hb hby at_205) hrZ
        · show Q0 Z p0 p1 p2 p3 h0 n0 _ T295.heap _
          rw [e295]
          exact ⟨rfl, N295⟩
set_option maxRecDepth 65536 in
set_option maxHeartbeats 40000000 in
theorem comes_1 {Post : Tables → Env → Array Value → State → Outcome → State → Prop} (hpost : ∀ tb e args s v u, (limb_1_1.after args s (.returned v) u = true ∧ limb_1_2.after args s (.returned v) u = true ∧ True) → FrameEnd s (.returned v) u (Jvm.fieldLocs frame_1_writes args s ++ Jvm.arrayLocs frame_1_arrays args s ++ Jvm.staticLocs frame_1_statics s) 16 128 → Post tb e args s (.returned v) u) :
    ArmFor flags0 classFile x code maxLocals ret World_1 tables_1 room_1 Calls_1 rest_1 Pre_1 Post := by
  intro l hfl _ _ p e ha hc hk s m args below hf hA hF happ hP
  obtain ⟨hcalls, hrest, hpre⟩ := hP
  obtain ⟨-, -, -, hnamed, -, -, -, hat⟩ := (Spec.applies_iff hf).mp happ
  obtain ⟨hg, hn⟩ := and_e (Cond.before_iff.mp (show (Jvm.Cond.and given_1 narrow_1).before args s = true from hpre))
  obtain ⟨g1, g2⟩ := and_e hg
  obtain ⟨g3, g4⟩ := and_e g2
  obtain ⟨g5, g6⟩ := and_e g4
  obtain ⟨g7, g8⟩ := and_e g6
  obtain ⟨w0, w1, w2, w3, rfl⟩ : ∃ w0 w1 w2 w3 : Value, args = #[w0, w1, w2, w3] := by
    have hs : args.size = 4 := by simpa [Cond.value, given_1] using g1
    obtain ⟨L⟩ := args
    match L, hs with
    | [w0, w1, w2, w3], _ => exact ⟨w0, w1, w2, w3, rfl⟩
  have hw := fun d (hd : d ∈ tables_1) => atoms_spec (ws := Jvm.Cond.code x code maxLocals ret :: tables_1) hat d (List.mem_cons_of_mem _ hd)
  have hfit : Fit s := fun {y c} hc i hi => by
    obtain ⟨ha, rfl⟩ := Array.getElem?_eq_some_iff.mp hc
    have q := List.all_eq_true.mp ((Array.all_eq_true_iff_forall_mem.mp hF) _ (Array.getElem_mem ha)) i (List.mem_range.mpr hi)
    simpa [Array.getElem?_eq_getElem hi] using q
  obtain ⟨i0, ei0⟩ := is_v g3
  obtain rfl : w0 = (.int i0) := Option.some.inj ei0
  obtain ⟨i1, ei1⟩ := is_v g5
  obtain rfl : w1 = (.int i1) := Option.some.inj ei1
  obtain ⟨i2, ei2⟩ := is_v g7
  obtain rfl : w2 = (.int i2) := Option.some.inj ei2
  obtain ⟨i3, ei3⟩ := is_v g8
  obtain rfl : w3 = (.int i3) := Option.some.inj ei3
  obtain ⟨n, o, h1, h2, h3, _, L, rfl, ⟨rfl, N⟩, hq⟩ := rm0 l s _ hw tables_1 i0 i1 i2 i3  s.heap s.heap.size (Nat.le_refl _)  p e ha hc hk s m _ below hf ((Spec.applies_iff_loose hf).mp happ).1 ⟨rfl, State.Warmed39.refl s, rfl⟩ trivial
  refine ⟨n, _, h1, h2, h3, hpost _ _ _ _ _ _ ⟨Cond.after_iff.mpr rfl, Cond.after_iff.mpr (eq_i res_at (Term.int_eval (1)) rfl), trivial⟩ ⟨hq.1, hq.2.1, (hq.2.2.sift fun y hy => Or.inr (N y hy)).mono (by decide) (by decide)⟩⟩
theorem main_1_1 : Claimed_1_1 := comes_1 fun _ _ _ _ _ _ h hF => ⟨h.1, hF⟩
theorem main_1_2 : Claimed_1_2 := comes_1 fun _ _ _ _ _ _ h hF => ⟨h.2.1, hF⟩
end Jvm.Pilot.@@N@@
namespace Jvm.Pilot.@@N@@
open Jvm Jvm.ClassFile Sem Op Lib Jvm.Free Jvm.Stand Jvm.Pilot.@@N@@.Jvm.D
/-! MADE BY PROGRAM (witnessworld.py) out of the Statement's table words and the real class files: 14 classes; the members and pool entries that the words name. The judged class is class 1, her method 1. -/
namespace start1
open Jvm.ClassFile
def u (s : String) : CpInfo := .utf8 (stringToUtf16 s)
/-- a pool by its gaps: so many unusable entries, then the entry; so many at the end -/
def gap : Nat → List CpInfo → List CpInfo
  | 0, r => r
  | n + 1, r => .unusable :: gap n r
def poolList (es : List (Nat × CpInfo)) (last : Nat) : List CpInfo := es.foldr (fun e r => gap e.1 (e.2 :: r)) (gap last [])
def pool (es : List (Nat × CpInfo)) (last : Nat) : Array CpInfo := ⟨poolList es last⟩
def fileOf (pool : Array CpInfo) (this : Nat) (attrs : Array Attribute := #[]) (ms : Array MethodInfo := #[]) (fl : Nat := 33) (sup : Nat := 0) (ifs : Array Nat := #[]) (fds : Array FieldInfo := #[]) : ClassFile where
  minorVersion := 0
  majorVersion := 65
  constantPool := pool
  accessFlags := fl
  thisClass := this
  superClass := sup
  interfaces := ifs
  fields := fds
  methods := ms
  attributes := attrs
def plain (name : String) (sup : Option ClassId) : Class where
  name := name
  kind := .ordinary
  loader := none
  accessFlags := 33
  super := sup
  interfaces := #[]
  cf := none
  fields := #[]
  methods := #[]
  instanceTypes := #[]
  staticTypes := #[]
  resolved := #[]
  callSites := []
  init := .initialized
  statics := none
  mirror := none

def pool0 : Array CpInfo := pool [(5, u "<init>"), (0, u "()V"), (1, .class_ 10), (1, u "java/lang/Object")] 113

def k0c0 : Code := { maxStack := 0, maxLocals := 1, code := object_method_1_code, exceptionTable := #[], attributes := #[] }
def k0m0 : Method := { name := "<init>", desc := "()V", sig := { parameters := [], returnType := none }, accessFlags := 1, code := some k0c0 }
/-- java/lang/Object -/
def k0 : Class := { plain "java/lang/Object" none with
  accessFlags := 33
  interfaces := #[]
  cf := some (fileOf pool0 8 #[] #[{ accessFlags := 1, nameIndex := 5, descriptorIndex := 6, attributes := #[] }] 33 0 #[] #[])
  fields := #[]
  methods := #[k0m0]
  instanceTypes := #[]
  staticTypes := #[]
  resolved := Array.replicate 124 none
  statics := none }

def pool1 : Array CpInfo := pool [(2, .class_ 4), (1, u "java/lang/Object"), (0, u "<init>"), (0, u "()V"), (0, .integer 2147483647), (0, .methodref 9 10), (0, .class_ 11), (0, .nameAndType 12 13), (0, u "java/lang/Math"), (0, u "min"), (0, u "(II)I"), (0, .class_ 15), (0, u "com/example/portunus/portunus/policy/Run"), (0, .methodref 14 17), (0, .nameAndType 5 18), (0, u "(Z)V"), (0, .methodref 14 20), (0, .nameAndType 21 22), (0, u "addLast"), (0, u "(Lcom/example/portunus/portunus/policy/WaitingTask;D)V"), (0, .double 4611686018427387904), (1, .double 4613937818241073152), (1, .methodref 14 28), (0, .nameAndType 29 30), (0, u "hasOther"), (0, u "()Z"), (0, .methodref 32 33), (0, .class_ 34), (0, .nameAndType 35 36), (0, u "com/example/portunus/portunus/policy/RunHasOtherPinLaw"), (0, u "doPolls"), (0, u "(Lcom/example/portunus/portunus/policy/Run;I)V"), (0, .methodref 32 38), (0, .nameAndType 39 36), (0, u "doMarks"), (0, .methodref 14 41), (0, .nameAndType 42 6), (0, u "markFirstOtherLost"), (0, .methodref 14 44), (0, .nameAndType 45 46), (0, u "pollFirstOther"), (0, u "()Lcom/example/portunus/portunus/policy/WaitingTask;"), (2, u "law"), (0, u "(IIII)Z")] 5

def k1m0 : Method := { name := "<init>", desc := "()V", sig := { parameters := [], returnType := none }, accessFlags := 1, code := none }
def k1c1 : Code := { maxStack := 4, maxLocals := 12, code := code, exceptionTable := #[], attributes := #[] }
def k1m1 : Method := { name := "law", desc := "(IIII)Z", sig := { parameters := [.int, .int, .int, .int], returnType := some .boolean }, accessFlags := 9, code := some k1c1 }
def k1c2 : Code := { maxStack := 2, maxLocals := 2, code := method_3_code, exceptionTable := #[], attributes := #[] }
def k1m2 : Method := { name := "doMarks", desc := "(Lcom/example/portunus/portunus/policy/Run;I)V", sig := { parameters := [(.object "com/example/portunus/portunus/policy/Run"), .int], returnType := none }, accessFlags := 10, code := some k1c2 }
def k1c3 : Code := { maxStack := 2, maxLocals := 2, code := method_4_code, exceptionTable := #[], attributes := #[] }
def k1m3 : Method := { name := "doPolls", desc := "(Lcom/example/portunus/portunus/policy/Run;I)V", sig := { parameters := [(.object "com/example/portunus/portunus/policy/Run"), .int], returnType := none }, accessFlags := 10, code := some k1c3 }
/-- com/example/portunus/portunus/policy/RunHasOtherPinLaw -/
def k1 : Class := { plain "com/example/portunus/portunus/policy/RunHasOtherPinLaw" (some 0) with
  accessFlags := 49
  interfaces := #[]
  cf := some (fileOf pool1 32 #[] #[{ accessFlags := 1, nameIndex := 5, descriptorIndex := 6, attributes := #[] }, { accessFlags := 9, nameIndex := 49, descriptorIndex := 50, attributes := #[] }, { accessFlags := 10, nameIndex := 39, descriptorIndex := 36, attributes := #[] }, { accessFlags := 10, nameIndex := 35, descriptorIndex := 36, attributes := #[] }] 49 2 #[] #[])
  fields := #[]
  methods := #[k1m0, k1m1, k1m2, k1m3]
  instanceTypes := #[]
  staticTypes := #[]
  resolved := Array.replicate 56 none
  statics := none }

def pool2 : Array CpInfo := pool [(1, .class_ 2), (0, u "java/lang/Math"), (1, .class_ 6), (1, u "java/lang/Object"), (0, u "<init>"), (0, u "()V"), (89, .class_ 100), (1, u "java/lang/Math$RandomNumberGeneratorHolder"), (71, u "negativeZeroFloatBits"), (0, u "J"), (2, u "negativeZeroDoubleBits"), (24, u "min"), (43, u "$assertionsDisabled"), (0, u "Z"), (88, u "(II)I"), (2, u "twoToTheDoubleScaleDown"), (0, u "D"), (4, u "twoToTheDoubleScaleUp"), (9, u "E"), (3, u "PI"), (2, u "TAU"), (2, u "DEGREES_TO_RADIANS"), (0, u "RADIANS_TO_DEGREES")] 94

def k2m0 : Method := { name := "<init>", desc := "()V", sig := { parameters := [], returnType := none }, accessFlags := 2, code := none }
def k2c1 : Code := { maxStack := 2, maxLocals := 2, code := jdk_29_method_69_code, exceptionTable := #[], attributes := #[] }
def k2m1 : Method := { name := "min", desc := "(II)I", sig := { parameters := [.int, .int], returnType := some .int }, accessFlags := 9, code := some k2c1 }
/-- java/lang/Math -/
def k2 : Class := { plain "java/lang/Math" (some 0) with
  accessFlags := 49
  interfaces := #[]
  cf := some (fileOf pool2 1 #[.nestMembers #[98]] #[{ accessFlags := 2, nameIndex := 7, descriptorIndex := 8, attributes := #[] }, { accessFlags := 9, nameIndex := 201, descriptorIndex := 335, attributes := #[] }] 49 4 #[] #[{ accessFlags := 25, nameIndex := 354, descriptorIndex := 339, attributes := #[] }, { accessFlags := 25, nameIndex := 358, descriptorIndex := 339, attributes := #[] }, { accessFlags := 25, nameIndex := 361, descriptorIndex := 339, attributes := #[] }, { accessFlags := 26, nameIndex := 364, descriptorIndex := 339, attributes := #[] }, { accessFlags := 26, nameIndex := 365, descriptorIndex := 339, attributes := #[] }, { accessFlags := 26, nameIndex := 172, descriptorIndex := 173, attributes := #[] }, { accessFlags := 26, nameIndex := 176, descriptorIndex := 173, attributes := #[] }, { accessFlags := 8, nameIndex := 344, descriptorIndex := 339, attributes := #[] }, { accessFlags := 8, nameIndex := 338, descriptorIndex := 339, attributes := #[] }, { accessFlags := 4120, nameIndex := 245, descriptorIndex := 246, attributes := #[] }])
  fields := #[{ name := "E", type := .double, accessFlags := 25, slot := 0, constantValue := 0 }, { name := "PI", type := .double, accessFlags := 25, slot := 1, constantValue := 0 }, { name := "TAU", type := .double, accessFlags := 25, slot := 2, constantValue := 0 }, { name := "DEGREES_TO_RADIANS", type := .double, accessFlags := 26, slot := 3, constantValue := 0 }, { name := "RADIANS_TO_DEGREES", type := .double, accessFlags := 26, slot := 4, constantValue := 0 }, { name := "negativeZeroFloatBits", type := .long, accessFlags := 26, slot := 5, constantValue := 0 }, { name := "negativeZeroDoubleBits", type := .long, accessFlags := 26, slot := 6, constantValue := 0 }, { name := "twoToTheDoubleScaleUp", type := .double, accessFlags := 8, slot := 7, constantValue := 0 }, { name := "twoToTheDoubleScaleDown", type := .double, accessFlags := 8, slot := 8, constantValue := 0 }, { name := "$assertionsDisabled", type := .boolean, accessFlags := 4120, slot := 9, constantValue := 0 }]
  methods := #[k2m0, k2m1]
  instanceTypes := #[]
  staticTypes := #[.double, .double, .double, .double, .double, .long, .long, .double, .double, .boolean]
  resolved := Array.replicate 460 none
  statics := none }

def pool3 : Array CpInfo := pool [(1, .methodref 2 3), (0, .class_ 4), (0, .nameAndType 5 6), (0, u "java/lang/Object"), (0, u "<init>"), (0, u "()V"), (0, .methodref 8 9), (0, .class_ 10), (0, .nameAndType 11 12), (0, u "com/example/portunus/portunus/policy/Run"), (0, u "tasks"), (0, u "(I)[Lcom/example/portunus/portunus/policy/WaitingTask;"), (0, .fieldref 8 14), (0, .nameAndType 15 16), (0, u "_tasks"), (0, u "[Lcom/example/portunus/portunus/policy/WaitingTask;"), (0, .fieldref 8 18), (0, .nameAndType 19 20), (0, u "_mayBeLostAfterUs"), (0, u "[D"), (0, .fieldref 8 22), (0, .nameAndType 23 24), (0, u "_lostSlots"), (0, u "I"), (0, .fieldref 8 26), (0, .nameAndType 27 24), (0, u "_size"), (0, .methodref 8 29), (0, .nameAndType 30 31), (0, u "slot"), (0, u "(I)I"), (0, .fieldref 8 33), (0, .nameAndType 34 24), (0, u "_first"), (40, .class_ 76), (0, u "com/example/portunus/portunus/policy/WaitingTask"), (19, u "(Z)V"), (4, u "hasOther"), (0, u "()Z"), (4, u "()Lcom/example/portunus/portunus/policy/WaitingTask;"), (10, u "addLast"), (0, u "(Lcom/example/portunus/portunus/policy/WaitingTask;D)V"), (1, u "markFirstOtherLost"), (0, u "pollFirstOther")] 34

def k3c0 : Code := { maxStack := 2, maxLocals := 2, code := prog_68_method_1_code, exceptionTable := #[], attributes := #[] }
def k3m0 : Method := { name := "<init>", desc := "(Z)V", sig := { parameters := [.boolean], returnType := none }, accessFlags := 0, code := some k3c0 }
def k3c1 : Code := { maxStack := 2, maxLocals := 1, code := prog_68_method_2_code, exceptionTable := #[], attributes := #[] }
def k3m1 : Method := { name := "hasOther", desc := "()Z", sig := { parameters := [], returnType := some .boolean }, accessFlags := 0, code := some k3c1 }
def k3c2 : Code := { maxStack := 4, maxLocals := 5, code := prog_68_method_14_code, exceptionTable := #[], attributes := #[] }
def k3m2 : Method := { name := "addLast", desc := "(Lcom/example/portunus/portunus/policy/WaitingTask;D)V", sig := { parameters := [(.object "com/example/portunus/portunus/policy/WaitingTask"), .double], returnType := none }, accessFlags := 0, code := some k3c2 }
def k3c3 : Code := { maxStack := 3, maxLocals := 1, code := prog_68_method_15_code, exceptionTable := #[], attributes := #[] }
def k3m3 : Method := { name := "markFirstOtherLost", desc := "()V", sig := { parameters := [], returnType := none }, accessFlags := 0, code := some k3c3 }
def k3c4 : Code := { maxStack := 3, maxLocals := 3, code := prog_68_method_16_code, exceptionTable := #[], attributes := #[] }
def k3m4 : Method := { name := "pollFirstOther", desc := "()Lcom/example/portunus/portunus/policy/WaitingTask;", sig := { parameters := [], returnType := some (.object "com/example/portunus/portunus/policy/WaitingTask") }, accessFlags := 0, code := some k3c4 }
def k3c5 : Code := { maxStack := 3, maxLocals := 2, code := prog_68_method_18_code, exceptionTable := #[], attributes := #[] }
def k3m5 : Method := { name := "slot", desc := "(I)I", sig := { parameters := [.int], returnType := some .int }, accessFlags := 2, code := some k3c5 }
def k3c6 : Code := { maxStack := 1, maxLocals := 1, code := prog_68_method_20_code, exceptionTable := #[], attributes := #[] }
def k3m6 : Method := { name := "tasks", desc := "(I)[Lcom/example/portunus/portunus/policy/WaitingTask;", sig := { parameters := [.int], returnType := some (.array (.object "com/example/portunus/portunus/policy/WaitingTask")) }, accessFlags := 10, code := some k3c6 }
/-- com/example/portunus/portunus/policy/Run -/
def k3 : Class := { plain "com/example/portunus/portunus/policy/Run" (some 0) with
  accessFlags := 32
  interfaces := #[]
  cf := some (fileOf pool3 8 #[] #[{ accessFlags := 0, nameIndex := 5, descriptorIndex := 96, attributes := #[] }, { accessFlags := 0, nameIndex := 101, descriptorIndex := 102, attributes := #[] }, { accessFlags := 0, nameIndex := 118, descriptorIndex := 119, attributes := #[] }, { accessFlags := 0, nameIndex := 121, descriptorIndex := 6, attributes := #[] }, { accessFlags := 0, nameIndex := 122, descriptorIndex := 107, attributes := #[] }, { accessFlags := 2, nameIndex := 30, descriptorIndex := 31, attributes := #[] }, { accessFlags := 10, nameIndex := 11, descriptorIndex := 12, attributes := #[] }] 32 2 #[] #[{ accessFlags := 2, nameIndex := 15, descriptorIndex := 16, attributes := #[] }, { accessFlags := 2, nameIndex := 19, descriptorIndex := 20, attributes := #[] }, { accessFlags := 2, nameIndex := 34, descriptorIndex := 24, attributes := #[] }, { accessFlags := 2, nameIndex := 23, descriptorIndex := 24, attributes := #[] }, { accessFlags := 2, nameIndex := 27, descriptorIndex := 24, attributes := #[] }])
  fields := #[{ name := "_tasks", type := (.array (.object "com/example/portunus/portunus/policy/WaitingTask")), accessFlags := 2, slot := 0, constantValue := 0 }, { name := "_mayBeLostAfterUs", type := (.array .double), accessFlags := 2, slot := 1, constantValue := 0 }, { name := "_first", type := .int, accessFlags := 2, slot := 2, constantValue := 0 }, { name := "_lostSlots", type := .int, accessFlags := 2, slot := 3, constantValue := 0 }, { name := "_size", type := .int, accessFlags := 2, slot := 4, constantValue := 0 }]
  methods := #[k3m0, k3m1, k3m2, k3m3, k3m4, k3m5, k3m6]
  instanceTypes := #[(.array (.object "com/example/portunus/portunus/policy/WaitingTask")), (.array .double), .int, .int, .int]
  staticTypes := #[]
  resolved := Array.replicate 157 none
  statics := none }

def pool4 : Array CpInfo := pool [(1, .class_ 2), (0, u "com/example/portunus/portunus/policy/WaitingTask"), (0, .class_ 4), (0, u "java/lang/Object")] 12

/-- com/example/portunus/portunus/policy/WaitingTask -/
def k4 : Class := { plain "com/example/portunus/portunus/policy/WaitingTask" (some 0) with
  accessFlags := 1537
  interfaces := #[]
  cf := some (fileOf pool4 1 #[] #[] 1537 3 #[] #[])
  fields := #[]
  methods := #[]
  instanceTypes := #[]
  staticTypes := #[]
  resolved := Array.replicate 17 none
  statics := none }

def pool5 : Array CpInfo := pool [(1, u "java/lang/Cloneable"), (0, .class_ 1), (0, u "java/lang/Object"), (0, .class_ 3)] 3

/-- java/lang/Cloneable -/
def k5 : Class := { plain "java/lang/Cloneable" (some 0) with
  accessFlags := 1537
  interfaces := #[]
  cf := some (fileOf pool5 2 #[] #[] 1537 4 #[] #[])
  fields := #[]
  methods := #[]
  instanceTypes := #[]
  staticTypes := #[]
  resolved := Array.replicate 8 none
  statics := none }

def pool6 : Array CpInfo := pool [(1, u "java/io/Serializable"), (0, .class_ 1), (0, u "java/lang/Object"), (0, .class_ 3)] 3

/-- java/io/Serializable -/
def k6 : Class := { plain "java/io/Serializable" (some 0) with
  accessFlags := 1537
  interfaces := #[]
  cf := some (fileOf pool6 2 #[] #[] 1537 4 #[] #[])
  fields := #[]
  methods := #[]
  instanceTypes := #[]
  staticTypes := #[]
  resolved := Array.replicate 8 none
  statics := none }

/-- the primitive byte -/
def k7 : Class := { plain "byte" none with kind := .primitive 'B', accessFlags := 0x411 }
/-- [B -/
def k8 : Class := { plain "[B" (some 0) with kind := .array 7 .byte, interfaces := #[5, 6], accessFlags := 1041 }

/-- the primitive double -/
def k9 : Class := { plain "double" none with kind := .primitive 'D', accessFlags := 0x411 }
/-- [D -/
def k10 : Class := { plain "[D" (some 0) with kind := .array 9 .double, interfaces := #[5, 6], accessFlags := 1041 }

/-- the primitive int -/
def k11 : Class := { plain "int" none with kind := .primitive 'I', accessFlags := 0x411 }
/-- [I -/
def k12 : Class := { plain "[I" (some 0) with kind := .array 11 .int, interfaces := #[5, 6], accessFlags := 1041 }

/-- [Lcom/example/portunus/portunus/policy/WaitingTask; -/
def k13 : Class := { plain "[Lcom/example/portunus/portunus/policy/WaitingTask;" (some 0) with kind := .array 4 (.object "com/example/portunus/portunus/policy/WaitingTask"), interfaces := #[5, 6], accessFlags := 1041 }

def heap : Heap := #[]
def classes : Array Class := #[k0, k1, k2, k3, k4, k5, k6, k7, k8, k9, k10, k11, k12, k13]
def interned : List (Array UInt16 × Addr) := []
def slotsUsed : Nat := 0
def theMethod : MethodId := ⟨1, 1⟩
def args0 : Array Value := #[.int 5, .int 6, .int 7, .int 8]
def aboutOver (below : List Frame) : State where
  vm := { classes := classes, interned := interned.toArray }
  heap := heap
  slotsUsed := slotsUsed
  threads := #[{ frames := .invoking theMethod args0 :: below }]
def below0 : List Frame := [.native { method := ⟨0, 0⟩, args := #[] }]
def about1 : State := aboutOver below0
def p0 : Program := .bare "" "" ""
def e0 : Env := launch0.env 0 0 0
theorem w_frames : about1.frames = Frame.invoking theMethod args0 :: below0 := rfl
set_option maxRecDepth 65536 in
theorem w_args : argsFit about1.vm theMethod args0 = true := by decide +kernel
set_option maxRecDepth 65536 in
theorem w_heap : heapFits about1 = true := by decide +kernel
set_option maxRecDepth 65536 in
theorem w_runnable : about1.curStatus? = some .runnable := by decide +kernel
set_option maxRecDepth 65536 in
theorem w_alone : about1.alone = true := by decide +kernel
set_option maxRecDepth 65536 in
theorem w_named : about1.methodNamed? x = some theMethod := by decide +kernel
set_option maxRecDepth 65536 in
theorem w_hears : about1.hears theMethod below0 = true := by decide +kernel
set_option maxRecDepth 65536 in
theorem w_ripe : about1.ripe theMethod args0 below0 = true := by decide +kernel
theorem w_running : about1.status = .running := rfl
set_option maxRecDepth 65536 in
theorem w_room : about1.hasRoom e0.platform room_1 = true :=
  launch0.hasRoom_least _ room_1 (by decide +kernel) (by decide +kernel) (by decide +kernel) (by decide +kernel) (by decide +kernel) (by decide +kernel)
theorem allAtoms_all (ts : List Jvm.Cond) (a : Array Jvm.Value) (st : Jvm.State) : (allAtoms ts).before a st = ts.all (fun c => c.before a st) := by
  induction ts with
  | nil => rfl
  | cons c t ih =>
    show (Jvm.Cond.and c (allAtoms t)).before a st = _
    rw [Jvm.Cond.before_and, ih, List.all_cons]
def words1 : List Jvm.Cond := Jvm.Cond.code x code maxLocals ret :: tables_1
/-- a 'code' word, met by the world's own term for the bytes: nothing is compared byte by byte -/
theorem code_word {y : MethodName} {bytes : ByteArray} {mx : Nat} {rt : Option FieldType} {a : Array Value} {s : State} {m : MethodId} {meth : Method} {c : Code} (h1 : s.methodNamed? y = some m) (h2 : s.vm.method? m = some meth) (h3 : meth.code = some c) (h4 : c.code = bytes)
    (h5 : (c.maxLocals == mx && c.exceptionTable.isEmpty && decide (c.maxStack ≤ mostOperands) && decide (meth.sig.returnType = rt) && !meth.locks && decide (parseMethodDescriptor y.desc = some meth.sig)) = true) : (Jvm.Cond.code y bytes mx rt).before a s = true := by
  simp only [Bool.and_eq_true, beq_iff_eq, Bool.not_eq_true', decide_eq_true_eq] at h5
  obtain ⟨⟨⟨⟨⟨g1, g2⟩, g3⟩, g4⟩, g5⟩, g6⟩ := h5
  simp [Cond.before, Cond.holds, Cond.value, h1, h2, h3, h4, g1, g2, g3, g4, g5, g6]
def isCode : Jvm.Cond → Bool
  | .code _ _ _ _ => true
  | _ => false
theorem all_split {L : List Jvm.Cond} {P : Jvm.Cond → Bool} (h1 : L.all (fun c => isCode c || P c) = true) (h2 : ∀ c ∈ L.filter isCode, P c = true) : L.all P = true := by
  refine List.all_eq_true.mpr fun c hc => ?_
  have h := List.all_eq_true.mp h1 c hc
  rcases Bool.eq_false_or_eq_true (isCode c) with hi | hi
  · exact h2 c (List.mem_filter.mpr ⟨hc, hi⟩)
  · simpa [hi] using h
set_option maxRecDepth 65536 in
theorem w_c0 : (Jvm.Cond.code x code maxLocals ret).before args0 about1 = true := code_word (m := ⟨1, 1⟩) (meth := k1m1) (c := k1c1) (by decide +kernel) rfl rfl rfl (by decide +kernel)
set_option maxRecDepth 65536 in
theorem w_c1 : (Jvm.Cond.code ({ cls := "java/lang/Math", name := "min", desc := "(II)I" } : Jvm.MethodName) jdk_29_method_69_code (2 : Nat) (Option.some Jvm.ClassFile.FieldType.int)).before args0 about1 = true := code_word (m := ⟨2, 1⟩) (meth := k2m1) (c := k2c1) (by decide +kernel) rfl rfl rfl (by decide +kernel)
set_option maxRecDepth 65536 in
theorem w_c2 : (Jvm.Cond.code ({ cls := "com/example/portunus/portunus/policy/Run", name := "<init>", desc := "(Z)V" } : Jvm.MethodName) prog_68_method_1_code (2 : Nat) (Option.none : Option Jvm.ClassFile.FieldType)).before args0 about1 = true := code_word (m := ⟨3, 0⟩) (meth := k3m0) (c := k3c0) (by decide +kernel) rfl rfl rfl (by decide +kernel)
set_option maxRecDepth 65536 in
theorem w_c3 : (Jvm.Cond.code ({ cls := "java/lang/Object", name := "<init>", desc := "()V" } : Jvm.MethodName) object_method_1_code (1 : Nat) (Option.none : Option Jvm.ClassFile.FieldType)).before args0 about1 = true := code_word (m := ⟨0, 0⟩) (meth := k0m0) (c := k0c0) (by decide +kernel) rfl rfl rfl (by decide +kernel)
set_option maxRecDepth 65536 in
theorem w_c4 : (Jvm.Cond.code ({ cls := "com/example/portunus/portunus/policy/Run", name := "tasks", desc := "(I)[Lcom/example/portunus/portunus/policy/WaitingTask;" } : Jvm.MethodName) prog_68_method_20_code (1 : Nat) (Option.some (Jvm.ClassFile.FieldType.array (Jvm.ClassFile.FieldType.object "com/example/portunus/portunus/policy/WaitingTask")))).before args0 about1 = true := code_word (m := ⟨3, 6⟩) (meth := k3m6) (c := k3c6) (by decide +kernel) rfl rfl rfl (by decide +kernel)
set_option maxRecDepth 65536 in
theorem w_c5 : (Jvm.Cond.code ({ cls := "com/example/portunus/portunus/policy/Run", name := "addLast", desc := "(Lcom/example/portunus/portunus/policy/WaitingTask;D)V" } : Jvm.MethodName) prog_68_method_14_code (5 : Nat) (Option.none : Option Jvm.ClassFile.FieldType)).before args0 about1 = true := code_word (m := ⟨3, 2⟩) (meth := k3m2) (c := k3c2) (by decide +kernel) rfl rfl rfl (by decide +kernel)
set_option maxRecDepth 65536 in
theorem w_c6 : (Jvm.Cond.code ({ cls := "com/example/portunus/portunus/policy/Run", name := "slot", desc := "(I)I" } : Jvm.MethodName) prog_68_method_18_code (2 : Nat) (Option.some Jvm.ClassFile.FieldType.int)).before args0 about1 = true := code_word (m := ⟨3, 5⟩) (meth := k3m5) (c := k3c5) (by decide +kernel) rfl rfl rfl (by decide +kernel)
set_option maxRecDepth 65536 in
theorem w_c7 : (Jvm.Cond.code ({ cls := "com/example/portunus/portunus/policy/Run", name := "hasOther", desc := "()Z" } : Jvm.MethodName) prog_68_method_2_code (1 : Nat) (Option.some Jvm.ClassFile.FieldType.boolean)).before args0 about1 = true := code_word (m := ⟨3, 1⟩) (meth := k3m1) (c := k3c1) (by decide +kernel) rfl rfl rfl (by decide +kernel)
set_option maxRecDepth 65536 in
theorem w_c8 : (Jvm.Cond.code ({ cls := "com/example/portunus/portunus/policy/RunHasOtherPinLaw", name := "doMarks", desc := "(Lcom/example/portunus/portunus/policy/Run;I)V" } : Jvm.MethodName) method_3_code (2 : Nat) (Option.none : Option Jvm.ClassFile.FieldType)).before args0 about1 = true := code_word (m := ⟨1, 2⟩) (meth := k1m2) (c := k1c2) (by decide +kernel) rfl rfl rfl (by decide +kernel)
set_option maxRecDepth 65536 in
theorem w_c9 : (Jvm.Cond.code ({ cls := "com/example/portunus/portunus/policy/Run", name := "markFirstOtherLost", desc := "()V" } : Jvm.MethodName) prog_68_method_15_code (1 : Nat) (Option.none : Option Jvm.ClassFile.FieldType)).before args0 about1 = true := code_word (m := ⟨3, 3⟩) (meth := k3m3) (c := k3c3) (by decide +kernel) rfl rfl rfl (by decide +kernel)
set_option maxRecDepth 65536 in
theorem w_c10 : (Jvm.Cond.code ({ cls := "com/example/portunus/portunus/policy/RunHasOtherPinLaw", name := "doPolls", desc := "(Lcom/example/portunus/portunus/policy/Run;I)V" } : Jvm.MethodName) method_4_code (2 : Nat) (Option.none : Option Jvm.ClassFile.FieldType)).before args0 about1 = true := code_word (m := ⟨1, 3⟩) (meth := k1m3) (c := k1c3) (by decide +kernel) rfl rfl rfl (by decide +kernel)
set_option maxRecDepth 65536 in
theorem w_c11 : (Jvm.Cond.code ({ cls := "com/example/portunus/portunus/policy/Run", name := "pollFirstOther", desc := "()Lcom/example/portunus/portunus/policy/WaitingTask;" } : Jvm.MethodName) prog_68_method_16_code (3 : Nat) (Option.some (Jvm.ClassFile.FieldType.object "com/example/portunus/portunus/policy/WaitingTask"))).before args0 about1 = true := code_word (m := ⟨3, 4⟩) (meth := k3m4) (c := k3c4) (by decide +kernel) rfl rfl rfl (by decide +kernel)
def codes1 : List Jvm.Cond := [Jvm.Cond.code x code maxLocals ret, Jvm.Cond.code ({ cls := "java/lang/Math", name := "min", desc := "(II)I" } : Jvm.MethodName) jdk_29_method_69_code (2 : Nat) (Option.some Jvm.ClassFile.FieldType.int), Jvm.Cond.code ({ cls := "com/example/portunus/portunus/policy/Run", name := "<init>", desc := "(Z)V" } : Jvm.MethodName) prog_68_method_1_code (2 : Nat) (Option.none : Option Jvm.ClassFile.FieldType), Jvm.Cond.code ({ cls := "java/lang/Object", name := "<init>", desc := "()V" } : Jvm.MethodName) object_method_1_code (1 : Nat) (Option.none : Option Jvm.ClassFile.FieldType), Jvm.Cond.code ({ cls := "com/example/portunus/portunus/policy/Run", name := "tasks", desc := "(I)[Lcom/example/portunus/portunus/policy/WaitingTask;" } : Jvm.MethodName) prog_68_method_20_code (1 : Nat) (Option.some (Jvm.ClassFile.FieldType.array (Jvm.ClassFile.FieldType.object "com/example/portunus/portunus/policy/WaitingTask"))), Jvm.Cond.code ({ cls := "com/example/portunus/portunus/policy/Run", name := "addLast", desc := "(Lcom/example/portunus/portunus/policy/WaitingTask;D)V" } : Jvm.MethodName) prog_68_method_14_code (5 : Nat) (Option.none : Option Jvm.ClassFile.FieldType), Jvm.Cond.code ({ cls := "com/example/portunus/portunus/policy/Run", name := "slot", desc := "(I)I" } : Jvm.MethodName) prog_68_method_18_code (2 : Nat) (Option.some Jvm.ClassFile.FieldType.int), Jvm.Cond.code ({ cls := "com/example/portunus/portunus/policy/Run", name := "hasOther", desc := "()Z" } : Jvm.MethodName) prog_68_method_2_code (1 : Nat) (Option.some Jvm.ClassFile.FieldType.boolean), Jvm.Cond.code ({ cls := "com/example/portunus/portunus/policy/RunHasOtherPinLaw", name := "doMarks", desc := "(Lcom/example/portunus/portunus/policy/Run;I)V" } : Jvm.MethodName) method_3_code (2 : Nat) (Option.none : Option Jvm.ClassFile.FieldType), Jvm.Cond.code ({ cls := "com/example/portunus/portunus/policy/Run", name := "markFirstOtherLost", desc := "()V" } : Jvm.MethodName) prog_68_method_15_code (1 : Nat) (Option.none : Option Jvm.ClassFile.FieldType), Jvm.Cond.code ({ cls := "com/example/portunus/portunus/policy/RunHasOtherPinLaw", name := "doPolls", desc := "(Lcom/example/portunus/portunus/policy/Run;I)V" } : Jvm.MethodName) method_4_code (2 : Nat) (Option.none : Option Jvm.ClassFile.FieldType), Jvm.Cond.code ({ cls := "com/example/portunus/portunus/policy/Run", name := "pollFirstOther", desc := "()Lcom/example/portunus/portunus/policy/WaitingTask;" } : Jvm.MethodName) prog_68_method_16_code (3 : Nat) (Option.some (Jvm.ClassFile.FieldType.object "com/example/portunus/portunus/policy/WaitingTask"))]
set_option maxRecDepth 65536 in
theorem codes_eq : words1.filter isCode = codes1 := rfl
theorem w_codes : ∀ c ∈ words1.filter isCode, c.before args0 about1 = true := by
  rw [codes_eq]
  intro c hc
  simp only [codes1, List.mem_cons, List.not_mem_nil, or_false] at hc
  rcases hc with rfl | rfl | rfl | rfl | rfl | rfl | rfl | rfl | rfl | rfl | rfl | rfl
  · exact w_c0
  · exact w_c1
  · exact w_c2
  · exact w_c3
  · exact w_c4
  · exact w_c5
  · exact w_c6
  · exact w_c7
  · exact w_c8
  · exact w_c9
  · exact w_c10
  · exact w_c11
set_option maxRecDepth 65536 in
theorem w_t1 : (words1.take 24).all (fun c => isCode c || c.before args0 about1) = true := by decide +kernel
set_option maxRecDepth 65536 in
theorem w_t2 : ((words1.drop 24).take 24).all (fun c => isCode c || c.before args0 about1) = true := by decide +kernel
set_option maxRecDepth 65536 in
theorem w_t3 : ((words1.drop 24).drop 24).all (fun c => isCode c || c.before args0 about1) = true := by decide +kernel
theorem w_tables : (allAtoms (Jvm.Cond.code x code maxLocals ret :: tables_1)).before args0 about1 = true := by
  rw [allAtoms_all]
  show words1.all (fun c => c.before args0 about1) = true
  refine all_split ?_ w_codes
  rw [← List.take_append_drop 24 words1, List.all_append, w_t1, ← List.take_append_drop 24 (words1.drop 24), List.all_append, w_t2, w_t3]
  rfl
set_option maxRecDepth 65536 in
theorem w_case : (Jvm.Cond.and given_1 narrow_1).before args0 about1 = true := by decide +kernel
theorem w_applies : (headSpec (Jvm.Cond.code x code maxLocals ret :: tables_1) room_1).applies x e0.platform about1 = true :=
  (Spec.applies_iff w_frames).mpr ⟨w_running, w_runnable, w_alone, w_named, w_hears, w_ripe, w_room, w_tables⟩
theorem atStart : AtStart classFile x code maxLocals ret World_1 tables_1 room_1 Calls_1 rest_1 Pre_1 launch0 p0 e0 about1 theMethod args0 below0 :=
  ⟨lists_1, trivial, launch0.admits_env _ _ _, launch0.least_env, fairChoices_fair.cas, fairChoices_fair.clock, w_frames, w_args, w_heap, w_applies, trivial, trivial, w_case⟩
end start1
theorem witness_1 : WitnessClaimed_1 := ⟨start1.p0, start1.e0, start1.about1, start1.theMethod, start1.args0, start1.below0, start1.atStart⟩
end Jvm.Pilot.@@N@@
