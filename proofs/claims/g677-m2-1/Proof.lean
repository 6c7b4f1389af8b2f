import JvmDerived
import JvmDerived.Pilot.@@N@@Statement
import JvmDerived.Pilot.@@N@@Code
set_option linter.unusedVariables false
set_option linter.unusedSimpArgs false
namespace Jvm.RoadKit
open Sem ClassFile Op Lib Jvm.Stand Jvm.Free Jvm.LawKit
section New
variable {p : Program} {l : Launch} {e : Env} {R : Room} {s : State} {m : MethodId} {args : Array Value} {below : List Frame} {meth : Method} {c : Code} {T : State} {locs : List Loc} {cells slots : Nat}
theorem retI (X : Stand p l e R s m args below meth c T locs cells slots) (hx : p.tables.exec = Jvm.exec) {pc : Nat} {Ls : Array Slot} {z : Int32} {rest : List Value} (hret : meth.sig.returnType = some .int) (hd : decode c.code pc = .ok (.ireturn, 1)) {fs : List Frame}
    (hl : ∀ (f : JFrame) (acts : List Action), f.method = m → f.locked = none → f.entered = [] → (doReturn e (T.setTop f) acts (some (.int z))).1 = T.setFrames fs) : Steps p.tables e below (T.setTop (mkF m pc Ls (.int z :: rest))) (T.setFrames fs) := by
  have hm' : T.vm.method? m = some meth := X.method'
  have hn : narrow .int (.int z) = .int z := rfl
  show Steps p.tables e below (T.setTop { method := m, pc := pc, locals := Ls, stack := _ :: rest, locked := none }) _
  jvm_step X.here [X.here.top, hx, hd, hm', hret, hn]
  first | (intro acts; rw [hl _ acts rfl rfl rfl]) | rw [hl _ _ rfl rfl rfl]
  exact Steps.refl _
end New
end Jvm.RoadKit
namespace Jvm.Pilot.@@N@@
open Jvm Jvm.ClassFile Sem Op Lib Jvm.Free Jvm.Stand Jvm.LawKit Jvm.RoadKit Bundle Jvm.Pilot.@@N@@.Jvm.D
/-- from this frame the run comes to its end, and Q is said of what it leaves -/
def own_Dn (p : Program) (e : Env) (below : List Frame) (s : State) (Q : Option Value → Heap → List Loc → Prop) (k n : Nat) (T : State) (g : JFrame) : Prop :=
  ∃ s₂ o, Steps p.tables e below (T.setTop g) s₂ ∧ s₂.status = .running ∧ Ended s₂ below o ∧ ∃ v L, o = .returned v ∧ Q v s₂.heap L ∧ FrameEnd s o s₂ L k n
theorem own_go {p : Program} {e : Env} {below : List Frame} {s : State} {Q : Option Value → Heap → List Loc → Prop} {k n : Nat} {T T' : State} {g g' : JFrame}
    (h : ∀ t, Steps p.tables e below (T'.setTop g') t → Steps p.tables e below (T.setTop g) t) (d : own_Dn p e below s Q k n T' g') : own_Dn p e below s Q k n T g := by
  obtain ⟨s₂, o, h1, h2⟩ := d
  exact ⟨s₂, o, h _ h1, h2⟩
theorem own_as {p : Program} {e : Env} {below : List Frame} {s : State} {Q : Option Value → Heap → List Loc → Prop} {k n : Nat} {T : State} {g g' : JFrame}
    (h : g = g') (d : own_Dn p e below s Q k n T g') : own_Dn p e below s Q k n T g := h ▸ d
theorem own_ret {p : Program} {l : Launch} {e : Env} {R : Room} {s : State} {m : MethodId} {args : Array Value} {below : List Frame} {meth : Method} {c : Code} {T : State} {locs : List Loc} {cells slots : Nat}
    {Q : Option Value → Heap → List Loc → Prop} {k n : Nat} {g : JFrame} (X : Stand p l e R s m args below meth c T locs cells slots) (hlocks : meth.locks = false) (v : Option Value) (hv : meth.sig.returnType = none → v = none)
    (hr : ∀ fs : List Frame, (∀ (f : JFrame) (acts : List Action), f.method = m → f.locked = none → f.entered = [] → (doReturn e (T.setTop f) acts v).1 = T.setFrames fs) → Steps p.tables e below (T.setTop g) (T.setFrames fs))
    (hQ : Q v T.heap locs) (hk : cells ≤ k) (hn : slots ≤ n) : own_Dn p e below s Q k n T g := by
  obtain ⟨fs, h1, hrun, hended, hW, hsame⟩ := X.leave (v := v) hv hlocks
  exact ⟨_, _, hr fs h1, hrun, hended, _, _, rfl, hQ, ⟨_, rfl⟩, hW, hsame.mono hk hn⟩
theorem own_ln128 : (-128 : Int32).toInt = -128 := by decide
theorem own_l0 : (0 : Int32).toInt = 0 := by decide
theorem own_l1 : (1 : Int32).toInt = 1 := by decide
theorem own_l2 : (2 : Int32).toInt = 2 := by decide
theorem own_l3 : (3 : Int32).toInt = 3 := by decide
theorem own_l29 : (29 : Int32).toInt = 29 := by decide
theorem own_l31 : (31 : Int32).toInt = 31 := by decide
theorem own_l127 : (127 : Int32).toInt = 127 := by decide
theorem own_l128 : (128 : Int32).toInt = 128 := by decide
theorem own_l256 : (256 : Int32).toInt = 256 := by decide
theorem own_l2147483647 : (2147483647 : Int32).toInt = 2147483647 := by decide
theorem own_ite {P : Prop} [Decidable P] : ((if P then (1 : Int32) else 0).toInt = 1 ∧ P) ∨ ((if P then (1 : Int32) else 0).toInt = 0 ∧ ¬ P) := by
  by_cases h : P
  · left; rw [if_pos h]; exact ⟨by decide, h⟩
  · right; rw [if_neg h]; exact ⟨by decide, h⟩
theorem own_found {Z : State} {a0 : Array Value} {K : String} {n : Nat} (w : (Jvm.Cond.instantiable K n).before a0 Z = true) : ∃ t k, Z.vm.findClass K = some t ∧ Z.vm.classes[t]? = some k ∧ k.kind = .ordinary ∧ k.isInterface = false := by
  obtain ⟨t, k, h1, h2, h3, h4, -⟩ := Cond.instantiable_spec w
  exact ⟨t, k, h1, h2, h3, (Bool.or_eq_false_iff.mp h4).1⟩
theorem own_nsroot {Z : State} {a0 : Array Value} {O K : String} {n : Nat} (w : (Jvm.Cond.noSuperclass O).before a0 Z = true) (wk : (Jvm.Cond.instantiable K n).before a0 Z = true) (hn : O ≠ K) : NS Z O K := by
  obtain ⟨c, k, h1, h2, h3, -, -⟩ := Cond.noSuperclass_spec w
  obtain ⟨t, kt, g1, -⟩ := own_found wk
  have ne := ids_ne h1 g1 hn
  refine ⟨c, t, h1, g1, fun fuel => ?_⟩
  cases fuel with
  | zero => rfl
  | succ f => simp [Vm.isSubclassAux, ne, h2, h3]
theorem own_nsno {Z : State} {a0 : Array Value} {C S K : String} {n : Nat} (w : (Jvm.Cond.superclass C S).before a0 Z = true) (wk : (Jvm.Cond.instantiable K n).before a0 Z = true) (ns : NS Z C K) (hn : C ≠ K) : ∃ c t, Z.vm.findClass C = some c ∧ Z.vm.findClass K = some t ∧ Z.vm.assignable c t = false := by
  obtain ⟨c, t, h0, g0, n3⟩ := ns
  obtain ⟨p, k, kp, h1, h2, h3, h4, h5, -, h7⟩ := Cond.superclass_spec h0 w
  obtain ⟨t', k', g1, g2, g5, g7⟩ := own_found wk
  cases g0.symm.trans g1
  have ne := ids_ne h0 g0 hn
  refine ⟨c, t, h0, g0, ?_⟩
  show Z.vm.assignableAux (255 + 1) c t = false
  simp [Vm.assignableAux, ne, h2, g2, h5, g5, g7, Vm.isSubclass, n3]
theorem own_len31 {Z : State} {args : Array Value} {t : Term} {a : Addr} {c : Cell} {v : Value} (ht : t.eval args Z none [] Z = some (.ref a)) (hc : Z.arrayAt? a = some c) (h : (Term.length t).eval args Z none [] Z = some v) : c.slots.size < 2 ^ 31 ∧ Value.int c.slots.size.toInt32 = v := by
  simp only [Term.eval, ht, hc, Option.bind_eq_bind, Option.bind_some] at h
  split at h
  · exact ⟨‹_›, Option.some.inj h⟩
  · cases h
theorem own_static_idx {Z : State} {args : Array Value} {C n d : String} (idx : List Nat) : (Term.static C n d).eval args Z none idx Z = (Term.static C n d).eval args Z none [] Z := rfl
theorem own_sub_idx {Z : State} {args : Array Value} {j : Int32} (nn : ¬ j < 0) : (Term.sub (.index 0) (.int (128 : Int32))).eval args Z none [j.toNatClampNeg] Z = some (.int (j - 128)) := by
  exact Term.sub_int (idx_at nn) (Term.int_eval (128))
theorem own_d1_0 : decode jdk_29_method_65_code 0 = .ok (.iload_n 0, 1) := by decide +kernel
theorem own_d1_1 : decode jdk_29_method_65_code 1 = .ok (.iload_n 1, 1) := by decide +kernel
theorem own_d1_2 : decode jdk_29_method_65_code 2 = .ok (.if_icmp .lt 7, 3) := by decide +kernel
theorem own_d1_5 : decode jdk_29_method_65_code 5 = .ok (.iload_n 0, 1) := by decide +kernel
theorem own_d1_6 : decode jdk_29_method_65_code 6 = .ok (.goto 4, 3) := by decide +kernel
theorem own_d1_9 : decode jdk_29_method_65_code 9 = .ok (.iload_n 1, 1) := by decide +kernel
theorem own_d1_10 : decode jdk_29_method_65_code 10 = .ok (.ireturn, 1) := by decide +kernel
theorem own_ef1 (m : MethodId) (u : Int32) (t : Int32) : entryFrame m #[(.int u), (.int t)] 2 = mkF m 0 #[.val (.int u), .val (.int t)] [] := by first | (simp [entryFrame, mkF, argsToLocals, Value.category]; done) | rfl
def own_Q1 (Z : State) (u : Int32) (t : Int32) (h0 : Heap) (n0 : Nat) (v : Option Value) (h : Heap) (L : List Loc) : Prop := ∃ z : Int32, v = some (.int z) ∧ Fr n0 L ∧ h = h0 ∧ ((u.toInt ≤ t.toInt ∧ z.toInt = t.toInt) ∨ (t.toInt ≤ u.toInt ∧ z.toInt = u.toInt))
set_option maxRecDepth 65536 in
set_option maxHeartbeats 40000000 in
theorem own_rm1 (l : Launch) (Z : State) (a0 : Array Value) (hw : ∀ d ∈ tables_1, d.before a0 Z = true) (ws : List Jvm.Cond) (u : Int32) (t : Int32) (h0 : Heap) (n0 : Nat) (Zs : n0 ≤ h0.size)  :
    MetFree l (⟨"java/lang/Math", "max", "(II)I"⟩ : MethodName) (head1 (Jvm.Cond.code (⟨"java/lang/Math", "max", "(II)I"⟩ : MethodName) jdk_29_method_65_code 2 (some .int) :: ws) ({ frames := 0, cells := 0, slots := 0, locals := 0 } : Room)) (fun aA_ U => aA_ = #[(.int u), (.int t)] ∧ Z.Warmed39 U.vm ∧ U.heap = h0) (fun _ _ _ _ _ => True) (fun _ U o U' => ∃ v L, o = .returned v ∧ own_Q1 Z u t h0 n0 v U'.heap L ∧ FrameEnd U o U' L ({ frames := 0, cells := 0, slots := 0, locals := 0 } : Room).cells ({ frames := 0, cells := 0, slots := 0, locals := 0 } : Room).slots) := by
  refine MetFree.of_bodySF (Jvm.Free.JP.mathPlain rfl (by decide +kernel)) hisR ?_
  intro p e s m args below meth c s₁ Bd hml0 hP hK
  obtain ⟨rfl, hZ, hh⟩ := hP
  have hx := Bd.exec
  have hby := Bd.bytes
  have hml : c.maxLocals = 2 := hml0
  have hown : s.vm.findClass "java/lang/Math" = some m.cls := findClass_of_methodNamed Bd.named
  have hnm := (name_of_methodNamed Bd.named Bd.method).1
  have X0 : Stand p l e ({ frames := 0, cells := 0, slots := 0, locals := 0 } : Room) s m #[(.int u), (.int t)] below meth c s₁ [] 0 0 := Stand.of_body Bd
  have e0 : s₁.heap = h0 := by rw [← hh, Bd.state]; rfl
  have NF := Fr.nil n0
  rw [own_ef1 m u t]
  show own_Dn p e below s (own_Q1 Z u t h0 n0) 0 0 s₁ (mkF m 0 #[.val (.int u), .val (.int t)] [])
  refine own_go (T' := s₁) (g' := (mkF m 1 #[.val (.int u), .val (.int t)] [(.int u)])) (fun _ k => XS.iloadN X0.here hx rfl (hb hby own_d1_0) rfl k) ?_
  refine own_go (T' := s₁) (g' := (mkF m 2 #[.val (.int u), .val (.int t)] [(.int t), (.int u)])) (fun _ k => XS.iloadN X0.here hx rfl (hb hby own_d1_1) rfl k) ?_
  by_cases c1 : u < t
  · refine own_go (T' := s₁) (g' := (mkF m 9 #[.val (.int u), .val (.int t)] [])) (fun _ k => XS.icmpYes X0.here hx rfl (pc0 := 2) (pc' := 9) rfl (hb hby own_d1_2) rfl (tlt c1).1 (by decide) (by decide) k) ?_
    refine own_go (T' := s₁) (g' := (mkF m 10 #[.val (.int u), .val (.int t)] [(.int t)])) (fun _ k => XS.iloadN X0.here hx rfl (hb hby own_d1_9) rfl k) ?_
    refine own_ret X0 Bd.notSynchronized (some (.int t)) (fun h => by rw [Bd.returns] at h; cases h) (fun fs hr => retI X0 hx Bd.returns (hb hby own_d1_10) hr) ?_ (by decide) (by decide)
    show (own_Q1 Z u t h0 n0) (some (.int t)) s₁.heap _
    rw [e0]
    exact ⟨_, rfl, NF, rfl, by (try simp only [own_ln128, own_l0, own_l1, own_l2, own_l3, own_l29, own_l31, own_l127, own_l128, own_l256, own_l2147483647, Int32.lt_iff_toInt_lt, ← Int32.toInt_inj, Int64.lt_iff_toInt_lt, ← Int64.toInt_inj, and_true, true_and, and_false, false_and, or_true, true_or, or_false, false_or, not_true_eq_false, not_false_eq_true, ne_eq, true_implies, false_implies, implies_true] at c1 ⊢) <;> omega⟩
  · refine own_go (T' := s₁) (g' := (mkF m 5 #[.val (.int u), .val (.int t)] [])) (fun _ k => XS.icmpNo X0.here hx rfl (hb hby own_d1_2) rfl (flt c1).1 k) ?_
    refine own_go (T' := s₁) (g' := (mkF m 6 #[.val (.int u), .val (.int t)] [(.int u)])) (fun _ k => XS.iloadN X0.here hx rfl (hb hby own_d1_5) rfl k) ?_
    refine own_go (T' := s₁) (g' := (mkF m 10 #[.val (.int u), .val (.int t)] [(.int u)])) (fun _ k => XS.goto X0.here hx rfl (pc0 := 6) (pc' := 10) rfl (hb hby own_d1_6) (by decide) (by decide) k) ?_
    refine own_ret X0 Bd.notSynchronized (some (.int u)) (fun h => by rw [Bd.returns] at h; cases h) (fun fs hr => retI X0 hx Bd.returns (hb hby own_d1_10) hr) ?_ (by decide) (by decide)
    show (own_Q1 Z u t h0 n0) (some (.int u)) s₁.heap _
    rw [e0]
    exact ⟨_, rfl, NF, rfl, by (try simp only [own_ln128, own_l0, own_l1, own_l2, own_l3, own_l29, own_l31, own_l127, own_l128, own_l256, own_l2147483647, Int32.lt_iff_toInt_lt, ← Int32.toInt_inj, Int64.lt_iff_toInt_lt, ← Int64.toInt_inj, and_true, true_and, and_false, false_and, or_true, true_or, or_false, false_or, not_true_eq_false, not_false_eq_true, ne_eq, true_implies, false_implies, implies_true] at c1 ⊢) <;> omega⟩
theorem own_d2_0 : decode prog_19_method_1_code 0 = .ok (.aload_n 0, 1) := by decide +kernel
theorem own_d2_1 : decode prog_19_method_1_code 1 = .ok (.invokespecial 1, 3) := by decide +kernel
theorem own_d2_4 : decode prog_19_method_1_code 4 = .ok (.iload_n 1, 1) := by decide +kernel
theorem own_d2_5 : decode prog_19_method_1_code 5 = .ok (.iconst 1, 1) := by decide +kernel
theorem own_d2_6 : decode prog_19_method_1_code 6 = .ok (.if_icmp .ge 13, 3) := by decide +kernel
theorem own_d2_19 : decode prog_19_method_1_code 19 = .ok (.iload_n 2, 1) := by decide +kernel
theorem own_d2_20 : decode prog_19_method_1_code 20 = .ok (.iconst 1, 1) := by decide +kernel
theorem own_d2_21 : decode prog_19_method_1_code 21 = .ok (.if_icmp .lt 9, 3) := by decide +kernel
theorem own_d2_24 : decode prog_19_method_1_code 24 = .ok (.iload_n 2, 1) := by decide +kernel
theorem own_d2_25 : decode prog_19_method_1_code 25 = .ok (.bipush 31, 2) := by decide +kernel
theorem own_d2_27 : decode prog_19_method_1_code 27 = .ok (.if_icmp .le 13, 3) := by decide +kernel
theorem own_d2_40 : decode prog_19_method_1_code 40 = .ok (.iload_n 3, 1) := by decide +kernel
theorem own_d2_41 : decode prog_19_method_1_code 41 = .ok (.iconst 1, 1) := by decide +kernel
theorem own_d2_42 : decode prog_19_method_1_code 42 = .ok (.if_icmp .lt 9, 3) := by decide +kernel
theorem own_d2_45 : decode prog_19_method_1_code 45 = .ok (.iload_n 3, 1) := by decide +kernel
theorem own_d2_46 : decode prog_19_method_1_code 46 = .ok (.bipush 29, 2) := by decide +kernel
theorem own_d2_48 : decode prog_19_method_1_code 48 = .ok (.if_icmp .le 13, 3) := by decide +kernel
theorem own_d2_61 : decode prog_19_method_1_code 61 = .ok (.aload_n 0, 1) := by decide +kernel
theorem own_d2_62 : decode prog_19_method_1_code 62 = .ok (.iload_n 1, 1) := by decide +kernel
theorem own_d2_63 : decode prog_19_method_1_code 63 = .ok (.putfield 22, 3) := by decide +kernel
theorem own_d2_66 : decode prog_19_method_1_code 66 = .ok (.aload_n 0, 1) := by decide +kernel
theorem own_d2_67 : decode prog_19_method_1_code 67 = .ok (.iload_n 2, 1) := by decide +kernel
theorem own_d2_68 : decode prog_19_method_1_code 68 = .ok (.putfield 28, 3) := by decide +kernel
theorem own_d2_71 : decode prog_19_method_1_code 71 = .ok (.aload_n 0, 1) := by decide +kernel
theorem own_d2_72 : decode prog_19_method_1_code 72 = .ok (.iload_n 3, 1) := by decide +kernel
theorem own_d2_73 : decode prog_19_method_1_code 73 = .ok (.putfield 31, 3) := by decide +kernel
theorem own_d2_76 : decode prog_19_method_1_code 76 = .ok (.return_, 1) := by decide +kernel
theorem own_pn2 : plainName "com/example/godwit/godwit/StoreSettings" = true := by first | (simp [plainName, overriddenIn]; done) | decide +kernel
theorem own_ef2 (m : MethodId) (a : Addr) (i1 : Int32) (i2 : Int32) (i3 : Int32) : entryFrame m #[(.ref a), (.int i1), (.int i2), (.int i3)] 4 = mkF m 0 #[.val (.ref a), .val (.int i1), .val (.int i2), .val (.int i3)] [] := by first | (simp [entryFrame, mkF, argsToLocals, Value.category]; done) | rfl
def own_Q2 (Z : State) (a : Addr) (i1 : Int32) (i2 : Int32) (i3 : Int32) (h0 : Heap) (n0 : Nat) (v : Option Value) (h : Heap) (L : List Loc) : Prop := v = none ∧ Fr n0 L ∧ Keep h0 h [a] ∧ Exa Z h a "com/example/godwit/godwit/StoreSettings" ∧ Fld Z h a "com/example/godwit/godwit/StoreSettings" "timeBinSeconds" "I" (.int i1) ∧ Fld Z h a "com/example/godwit/godwit/StoreSettings" "hilbertBits" "I" (.int i2) ∧ Fld Z h a "com/example/godwit/godwit/StoreSettings" "xzResolution" "I" (.int i3)
set_option maxRecDepth 65536 in
set_option maxHeartbeats 40000000 in
theorem own_rm2 (l : Launch) (Z : State) (a0 : Array Value) (hw : ∀ d ∈ tables_1, d.before a0 Z = true) (ws : List Jvm.Cond) (a : Addr) (i1 : Int32) (i2 : Int32) (i3 : Int32) (h0 : Heap) (n0 : Nat) (Zs : n0 ≤ h0.size) (F_a_timeBinSeconds : Fld Z h0 a "com/example/godwit/godwit/StoreSettings" "timeBinSeconds" "I" (.int (0 : Int32))) (F_a_hilbertBits : Fld Z h0 a "com/example/godwit/godwit/StoreSettings" "hilbertBits" "I" (.int (0 : Int32))) (F_a_xzResolution : Fld Z h0 a "com/example/godwit/godwit/StoreSettings" "xzResolution" "I" (.int (0 : Int32))) (E_a : Exa Z h0 a "com/example/godwit/godwit/StoreSettings") (g_a : n0 ≤ a) (hr : 1 ≤ i1.toInt ∧ 1 ≤ i2.toInt ∧ i2.toInt ≤ 31 ∧ 1 ≤ i3.toInt ∧ i3.toInt ≤ 29) :
    MetFree l (⟨"com/example/godwit/godwit/StoreSettings", "<init>", "(III)V"⟩ : MethodName) (head1 (Jvm.Cond.code (⟨"com/example/godwit/godwit/StoreSettings", "<init>", "(III)V"⟩ : MethodName) prog_19_method_1_code 4 none :: ws) ({ frames := 1, cells := 0, slots := 0, locals := 12 } : Room)) (fun aA_ U => aA_ = #[(.ref a), (.int i1), (.int i2), (.int i3)] ∧ Z.Warmed39 U.vm ∧ U.heap = h0) (fun _ _ _ _ _ => True) (fun _ U o U' => ∃ v L, o = .returned v ∧ own_Q2 Z a i1 i2 i3 h0 n0 v U'.heap L ∧ FrameEnd U o U' L ({ frames := 1, cells := 0, slots := 0, locals := 12 } : Room).cells ({ frames := 1, cells := 0, slots := 0, locals := 12 } : Room).slots) := by
  refine MetFree.of_bodySF (plainFor_of_name own_pn2) hisR ?_
  intro p e s m args below meth c s₁ Bd hml0 hP hK
  obtain ⟨rfl, hZ, hh⟩ := hP
  have hx := Bd.exec
  have hby := Bd.bytes
  have hml : c.maxLocals = 4 := hml0
  have hown : s.vm.findClass "com/example/godwit/godwit/StoreSettings" = some m.cls := findClass_of_methodNamed Bd.named
  have hnm := (name_of_methodNamed Bd.named Bd.method).1
  have X0 : Stand p l e ({ frames := 1, cells := 0, slots := 0, locals := 12 } : Room) s m #[(.ref a), (.int i1), (.int i2), (.int i3)] below meth c s₁ [] 0 0 := Stand.of_body Bd
  have e0 : s₁.heap = h0 := by rw [← hh, Bd.state]; rfl
  have NF := Fr.nil n0
  rw [own_ef2 m a i1 i2 i3]
  show own_Dn p e below s (own_Q2 Z a i1 i2 i3 h0 n0) 0 0 s₁ (mkF m 0 #[.val (.ref a), .val (.int i1), .val (.int i2), .val (.int i3)] [])
  have KP := Keep.refl h0 [a]
  refine own_go (T' := s₁) (g' := (mkF m 1 #[.val (.ref a), .val (.int i1), .val (.int i2), .val (.int i3)] [(.ref a)])) (fun _ k => XS.aloadN X0.here hx rfl (hb hby own_d2_0) rfl rfl k) ?_
  obtain ⟨T1, X1, e1, st1⟩ := initO X0 hx hZ hown (hw _ (List.mem_of_getElem? (i := 7) rfl)) (hw _ (List.mem_of_getElem? (i := 8) rfl)) (hw _ (List.mem_of_getElem? (i := 9) rfl)) e0 (g := (mkF m 1 #[.val (.ref a), .val (.int i1), .val (.int i2), .val (.int i3)] [(.ref a)])) rfl (by rw [hml]; rfl) rfl (hb hby own_d2_1) (by decide) (W := 0) (by show 2 * 0 + _ ≤ _; exact Nat.le_of_eq rfl) (by decide)
  refine own_go (T' := T1) (g' := (mkF m 4 #[.val (.ref a), .val (.int i1), .val (.int i2), .val (.int i3)] [])) (fun _ k => st1 _ k) ?_
  refine own_go (T' := T1) (g' := (mkF m 5 #[.val (.ref a), .val (.int i1), .val (.int i2), .val (.int i3)] [(.int i1)])) (fun _ k => XS.iloadN X1.here hx rfl (hb hby own_d2_4) rfl k) ?_
  refine own_go (T' := T1) (g' := (mkF m 6 #[.val (.ref a), .val (.int i1), .val (.int i2), .val (.int i3)] [(.int (1 : Int32)), (.int i1)])) (fun _ k => XS.iconst X1.here hx rfl (hb hby own_d2_5) k) ?_
  have d2 : ¬ (i1 < (1 : Int32)) := by (try simp only [own_ln128, own_l0, own_l1, own_l2, own_l3, own_l29, own_l31, own_l127, own_l128, own_l256, own_l2147483647, Int32.lt_iff_toInt_lt, ← Int32.toInt_inj, Int64.lt_iff_toInt_lt, ← Int64.toInt_inj, and_true, true_and, and_false, false_and, or_true, true_or, or_false, false_or, not_true_eq_false, not_false_eq_true, ne_eq, true_implies, false_implies, implies_true] at  ⊢) <;> omega
  refine own_go (T' := T1) (g' := (mkF m 19 #[.val (.ref a), .val (.int i1), .val (.int i2), .val (.int i3)] [])) (fun _ k => XS.icmpYes X1.here hx rfl (pc0 := 6) (pc' := 19) rfl (hb hby own_d2_6) rfl (flt d2).2.1 (by decide) (by decide) k) ?_
  refine own_go (T' := T1) (g' := (mkF m 20 #[.val (.ref a), .val (.int i1), .val (.int i2), .val (.int i3)] [(.int i2)])) (fun _ k => XS.iloadN X1.here hx rfl (hb hby own_d2_19) rfl k) ?_
  refine own_go (T' := T1) (g' := (mkF m 21 #[.val (.ref a), .val (.int i1), .val (.int i2), .val (.int i3)] [(.int (1 : Int32)), (.int i2)])) (fun _ k => XS.iconst X1.here hx rfl (hb hby own_d2_20) k) ?_
  have d3 : ¬ (i2 < (1 : Int32)) := by (try simp only [own_ln128, own_l0, own_l1, own_l2, own_l3, own_l29, own_l31, own_l127, own_l128, own_l256, own_l2147483647, Int32.lt_iff_toInt_lt, ← Int32.toInt_inj, Int64.lt_iff_toInt_lt, ← Int64.toInt_inj, and_true, true_and, and_false, false_and, or_true, true_or, or_false, false_or, not_true_eq_false, not_false_eq_true, ne_eq, true_implies, false_implies, implies_true] at  ⊢) <;> omega
  refine own_go (T' := T1) (g' := (mkF m 24 #[.val (.ref a), .val (.int i1), .val (.int i2), .val (.int i3)] [])) (fun _ k => XS.icmpNo X1.here hx rfl (hb hby own_d2_21) rfl (flt d3).1 k) ?_
  refine own_go (T' := T1) (g' := (mkF m 25 #[.val (.ref a), .val (.int i1), .val (.int i2), .val (.int i3)] [(.int i2)])) (fun _ k => XS.iloadN X1.here hx rfl (hb hby own_d2_24) rfl k) ?_
  refine own_go (T' := T1) (g' := (mkF m 27 #[.val (.ref a), .val (.int i1), .val (.int i2), .val (.int i3)] [(.int (31 : Int32)), (.int i2)])) (fun _ k => XS.bipush X1.here hx rfl (hb hby own_d2_25) k) ?_
  have d4 : ¬ ((31 : Int32) < i2) := by (try simp only [own_ln128, own_l0, own_l1, own_l2, own_l3, own_l29, own_l31, own_l127, own_l128, own_l256, own_l2147483647, Int32.lt_iff_toInt_lt, ← Int32.toInt_inj, Int64.lt_iff_toInt_lt, ← Int64.toInt_inj, and_true, true_and, and_false, false_and, or_true, true_or, or_false, false_or, not_true_eq_false, not_false_eq_true, ne_eq, true_implies, false_implies, implies_true] at  ⊢) <;> omega
  refine own_go (T' := T1) (g' := (mkF m 40 #[.val (.ref a), .val (.int i1), .val (.int i2), .val (.int i3)] [])) (fun _ k => XS.icmpYes X1.here hx rfl (pc0 := 27) (pc' := 40) rfl (hb hby own_d2_27) rfl (flt d4).2.2.2 (by decide) (by decide) k) ?_
  refine own_go (T' := T1) (g' := (mkF m 41 #[.val (.ref a), .val (.int i1), .val (.int i2), .val (.int i3)] [(.int i3)])) (fun _ k => XS.iloadN X1.here hx rfl (hb hby own_d2_40) rfl k) ?_
  refine own_go (T' := T1) (g' := (mkF m 42 #[.val (.ref a), .val (.int i1), .val (.int i2), .val (.int i3)] [(.int (1 : Int32)), (.int i3)])) (fun _ k => XS.iconst X1.here hx rfl (hb hby own_d2_41) k) ?_
  have d5 : ¬ (i3 < (1 : Int32)) := by (try simp only [own_ln128, own_l0, own_l1, own_l2, own_l3, own_l29, own_l31, own_l127, own_l128, own_l256, own_l2147483647, Int32.lt_iff_toInt_lt, ← Int32.toInt_inj, Int64.lt_iff_toInt_lt, ← Int64.toInt_inj, and_true, true_and, and_false, false_and, or_true, true_or, or_false, false_or, not_true_eq_false, not_false_eq_true, ne_eq, true_implies, false_implies, implies_true] at  ⊢) <;> omega
  refine own_go (T' := T1) (g' := (mkF m 45 #[.val (.ref a), .val (.int i1), .val (.int i2), .val (.int i3)] [])) (fun _ k => XS.icmpNo X1.here hx rfl (hb hby own_d2_42) rfl (flt d5).1 k) ?_
  refine own_go (T' := T1) (g' := (mkF m 46 #[.val (.ref a), .val (.int i1), .val (.int i2), .val (.int i3)] [(.int i3)])) (fun _ k => XS.iloadN X1.here hx rfl (hb hby own_d2_45) rfl k) ?_
  refine own_go (T' := T1) (g' := (mkF m 48 #[.val (.ref a), .val (.int i1), .val (.int i2), .val (.int i3)] [(.int (29 : Int32)), (.int i3)])) (fun _ k => XS.bipush X1.here hx rfl (hb hby own_d2_46) k) ?_
  have d6 : ¬ ((29 : Int32) < i3) := by (try simp only [own_ln128, own_l0, own_l1, own_l2, own_l3, own_l29, own_l31, own_l127, own_l128, own_l256, own_l2147483647, Int32.lt_iff_toInt_lt, ← Int32.toInt_inj, Int64.lt_iff_toInt_lt, ← Int64.toInt_inj, and_true, true_and, and_false, false_and, or_true, true_or, or_false, false_or, not_true_eq_false, not_false_eq_true, ne_eq, true_implies, false_implies, implies_true] at  ⊢) <;> omega
  refine own_go (T' := T1) (g' := (mkF m 61 #[.val (.ref a), .val (.int i1), .val (.int i2), .val (.int i3)] [])) (fun _ k => XS.icmpYes X1.here hx rfl (pc0 := 48) (pc' := 61) rfl (hb hby own_d2_48) rfl (flt d6).2.2.2 (by decide) (by decide) k) ?_
  refine own_go (T' := T1) (g' := (mkF m 62 #[.val (.ref a), .val (.int i1), .val (.int i2), .val (.int i3)] [(.ref a)])) (fun _ k => XS.aloadN X1.here hx rfl (hb hby own_d2_61) rfl rfl k) ?_
  refine own_go (T' := T1) (g' := (mkF m 63 #[.val (.ref a), .val (.int i1), .val (.int i2), .val (.int i3)] [(.int i1), (.ref a)])) (fun _ k => XS.iloadN X1.here hx rfl (hb hby own_d2_62) rfl k) ?_
  obtain ⟨T7, h7, X7, e7, W7, st7⟩ := putF X1 hx hZ hown (host := "") (Or.inl (hw _ (List.mem_of_getElem? (i := 10) rfl))) Via.refl e1 F_a_timeBinSeconds E_a (Or.inr ⟨(hw _ (List.mem_of_getElem? (i := 11) rfl)), rfl, hnm⟩) (hw _ (List.mem_of_getElem? (i := 2) rfl)) (ty := .int) (by decide) rfl rfl (g := (mkF m 63 #[.val (.ref a), .val (.int i1), .val (.int i2), .val (.int i3)] [(.int i1), (.ref a)])) rfl rfl (hb hby own_d2_63)
  have E_a := E_a.wr W7
  have F_a_hilbertBits := F_a_hilbertBits.other W7 (Or.inr (slot_ne (Or.inr (hw _ (List.mem_of_getElem? (i := 13) rfl))) (Or.inr (hw _ (List.mem_of_getElem? (i := 11) rfl))) (by decide) (t := .int) (t' := .int) (by decide) (by decide)))
  have F_a_xzResolution := F_a_xzResolution.other W7 (Or.inr (slot_ne (Or.inr (hw _ (List.mem_of_getElem? (i := 15) rfl))) (Or.inr (hw _ (List.mem_of_getElem? (i := 11) rfl))) (by decide) (t := .int) (t' := .int) (by decide) (by decide)))
  have Zs := Nat.le_trans Zs (Keep.of_wr W7).1
  have F_a_timeBinSeconds := F_a_timeBinSeconds.same W7
  have KP := KP.wr W7 (Or.inl (by simp))
  have NF := Fr.snoc X7 NF g_a
  refine own_go (T' := T7) (g' := (mkF m 66 #[.val (.ref a), .val (.int i1), .val (.int i2), .val (.int i3)] [])) (fun _ k => st7 _ k) ?_
  refine own_go (T' := T7) (g' := (mkF m 67 #[.val (.ref a), .val (.int i1), .val (.int i2), .val (.int i3)] [(.ref a)])) (fun _ k => XS.aloadN X7.here hx rfl (hb hby own_d2_66) rfl rfl k) ?_
  refine own_go (T' := T7) (g' := (mkF m 68 #[.val (.ref a), .val (.int i1), .val (.int i2), .val (.int i3)] [(.int i2), (.ref a)])) (fun _ k => XS.iloadN X7.here hx rfl (hb hby own_d2_67) rfl k) ?_
  obtain ⟨T8, h8, X8, e8, W8, st8⟩ := putF X7 hx hZ hown (host := "") (Or.inl (hw _ (List.mem_of_getElem? (i := 12) rfl))) Via.refl e7 F_a_hilbertBits E_a (Or.inr ⟨(hw _ (List.mem_of_getElem? (i := 13) rfl)), rfl, hnm⟩) (hw _ (List.mem_of_getElem? (i := 2) rfl)) (ty := .int) (by decide) rfl rfl (g := (mkF m 68 #[.val (.ref a), .val (.int i1), .val (.int i2), .val (.int i3)] [(.int i2), (.ref a)])) rfl rfl (hb hby own_d2_68)
  have E_a := E_a.wr W8
  have F_a_xzResolution := F_a_xzResolution.other W8 (Or.inr (slot_ne (Or.inr (hw _ (List.mem_of_getElem? (i := 15) rfl))) (Or.inr (hw _ (List.mem_of_getElem? (i := 13) rfl))) (by decide) (t := .int) (t' := .int) (by decide) (by decide)))
  have F_a_timeBinSeconds := F_a_timeBinSeconds.other W8 (Or.inr (slot_ne (Or.inr (hw _ (List.mem_of_getElem? (i := 11) rfl))) (Or.inr (hw _ (List.mem_of_getElem? (i := 13) rfl))) (by decide) (t := .int) (t' := .int) (by decide) (by decide)))
  have Zs := Nat.le_trans Zs (Keep.of_wr W8).1
  have F_a_hilbertBits := F_a_hilbertBits.same W8
  have KP := KP.wr W8 (Or.inl (by simp))
  have NF := Fr.snoc X8 NF g_a
  refine own_go (T' := T8) (g' := (mkF m 71 #[.val (.ref a), .val (.int i1), .val (.int i2), .val (.int i3)] [])) (fun _ k => st8 _ k) ?_
  refine own_go (T' := T8) (g' := (mkF m 72 #[.val (.ref a), .val (.int i1), .val (.int i2), .val (.int i3)] [(.ref a)])) (fun _ k => XS.aloadN X8.here hx rfl (hb hby own_d2_71) rfl rfl k) ?_
  refine own_go (T' := T8) (g' := (mkF m 73 #[.val (.ref a), .val (.int i1), .val (.int i2), .val (.int i3)] [(.int i3), (.ref a)])) (fun _ k => XS.iloadN X8.here hx rfl (hb hby own_d2_72) rfl k) ?_
  obtain ⟨T9, h9, X9, e9, W9, st9⟩ := putF X8 hx hZ hown (host := "") (Or.inl (hw _ (List.mem_of_getElem? (i := 14) rfl))) Via.refl e8 F_a_xzResolution E_a (Or.inr ⟨(hw _ (List.mem_of_getElem? (i := 15) rfl)), rfl, hnm⟩) (hw _ (List.mem_of_getElem? (i := 2) rfl)) (ty := .int) (by decide) rfl rfl (g := (mkF m 73 #[.val (.ref a), .val (.int i1), .val (.int i2), .val (.int i3)] [(.int i3), (.ref a)])) rfl rfl (hb hby own_d2_73)
  have E_a := E_a.wr W9
  have F_a_timeBinSeconds := F_a_timeBinSeconds.other W9 (Or.inr (slot_ne (Or.inr (hw _ (List.mem_of_getElem? (i := 11) rfl))) (Or.inr (hw _ (List.mem_of_getElem? (i := 15) rfl))) (by decide) (t := .int) (t' := .int) (by decide) (by decide)))
  have F_a_hilbertBits := F_a_hilbertBits.other W9 (Or.inr (slot_ne (Or.inr (hw _ (List.mem_of_getElem? (i := 13) rfl))) (Or.inr (hw _ (List.mem_of_getElem? (i := 15) rfl))) (by decide) (t := .int) (t' := .int) (by decide) (by decide)))
  have Zs := Nat.le_trans Zs (Keep.of_wr W9).1
  have F_a_xzResolution := F_a_xzResolution.same W9
  have KP := KP.wr W9 (Or.inl (by simp))
  have NF := Fr.snoc X9 NF g_a
  refine own_go (T' := T9) (g' := (mkF m 76 #[.val (.ref a), .val (.int i1), .val (.int i2), .val (.int i3)] [])) (fun _ k => st9 _ k) ?_
  refine own_ret X9 Bd.notSynchronized none (fun _ => rfl) (fun fs hr => X9.returnOut hx Bd.returns (hb hby own_d2_76) hr) ?_ (by decide) (by decide)
  show (own_Q2 Z a i1 i2 i3 h0 n0) none T9.heap _
  rw [e9]
  exact ⟨rfl, NF, KP, E_a, F_a_timeBinSeconds, F_a_hilbertBits, F_a_xzResolution⟩
theorem own_d3_0 : decode jdk_18_method_1_code 0 = .ok (.aload_n 0, 1) := by decide +kernel
theorem own_d3_1 : decode jdk_18_method_1_code 1 = .ok (.invokespecial 1, 3) := by decide +kernel
theorem own_d3_4 : decode jdk_18_method_1_code 4 = .ok (.return_, 1) := by decide +kernel
theorem own_pn3 : plainName "java/lang/Number" = true := by first | (simp [plainName, overriddenIn]; done) | decide +kernel
theorem own_ef3 (m : MethodId) (a : Addr) : entryFrame m #[(.ref a)] 1 = mkF m 0 #[.val (.ref a)] [] := by first | (simp [entryFrame, mkF, argsToLocals, Value.category]; done) | rfl
def own_Q3 (Z : State) (a : Addr) (h0 : Heap) (n0 : Nat) (v : Option Value) (h : Heap) (L : List Loc) : Prop := v = none ∧ Fr n0 L ∧ h = h0
set_option maxRecDepth 65536 in
set_option maxHeartbeats 40000000 in
theorem own_rm3 (l : Launch) (Z : State) (a0 : Array Value) (hw : ∀ d ∈ tables_1, d.before a0 Z = true) (ws : List Jvm.Cond) (a : Addr) (h0 : Heap) (n0 : Nat) (Zs : n0 ≤ h0.size)  :
    MetFree l (⟨"java/lang/Number", "<init>", "()V"⟩ : MethodName) (head1 (Jvm.Cond.code (⟨"java/lang/Number", "<init>", "()V"⟩ : MethodName) jdk_18_method_1_code 1 none :: ws) ({ frames := 1, cells := 0, slots := 0, locals := 12 } : Room)) (fun aA_ U => aA_ = #[(.ref a)] ∧ Z.Warmed39 U.vm ∧ U.heap = h0) (fun _ _ _ _ _ => True) (fun _ U o U' => ∃ v L, o = .returned v ∧ own_Q3 Z a h0 n0 v U'.heap L ∧ FrameEnd U o U' L ({ frames := 1, cells := 0, slots := 0, locals := 12 } : Room).cells ({ frames := 1, cells := 0, slots := 0, locals := 12 } : Room).slots) := by
  refine MetFree.of_bodySF (plainFor_of_name own_pn3) hisR ?_
  intro p e s m args below meth c s₁ Bd hml0 hP hK
  obtain ⟨rfl, hZ, hh⟩ := hP
  have hx := Bd.exec
  have hby := Bd.bytes
  have hml : c.maxLocals = 1 := hml0
  have hown : s.vm.findClass "java/lang/Number" = some m.cls := findClass_of_methodNamed Bd.named
  have hnm := (name_of_methodNamed Bd.named Bd.method).1
  have X0 : Stand p l e ({ frames := 1, cells := 0, slots := 0, locals := 12 } : Room) s m #[(.ref a)] below meth c s₁ [] 0 0 := Stand.of_body Bd
  have e0 : s₁.heap = h0 := by rw [← hh, Bd.state]; rfl
  have NF := Fr.nil n0
  rw [own_ef3 m a]
  show own_Dn p e below s (own_Q3 Z a h0 n0) 0 0 s₁ (mkF m 0 #[.val (.ref a)] [])
  refine own_go (T' := s₁) (g' := (mkF m 1 #[.val (.ref a)] [(.ref a)])) (fun _ k => XS.aloadN X0.here hx rfl (hb hby own_d3_0) rfl rfl k) ?_
  obtain ⟨T1, X1, e1, st1⟩ := initO X0 hx hZ hown (hw _ (List.mem_of_getElem? (i := 45) rfl)) (hw _ (List.mem_of_getElem? (i := 8) rfl)) (hw _ (List.mem_of_getElem? (i := 9) rfl)) e0 (g := (mkF m 1 #[.val (.ref a)] [(.ref a)])) rfl (by rw [hml]; rfl) rfl (hb hby own_d3_1) (by decide) (W := 0) (by show 2 * 0 + _ ≤ _; exact Nat.le_of_eq rfl) (by decide)
  refine own_go (T' := T1) (g' := (mkF m 4 #[.val (.ref a)] [])) (fun _ k => st1 _ k) ?_
  refine own_ret X1 Bd.notSynchronized none (fun _ => rfl) (fun fs hr => X1.returnOut hx Bd.returns (hb hby own_d3_4) hr) ?_ (by decide) (by decide)
  show (own_Q3 Z a h0 n0) none T1.heap _
  rw [e1]
  exact ⟨rfl, NF, rfl⟩
theorem own_d4_0 : decode jdk_33_method_23_code 0 = .ok (.aload_n 0, 1) := by decide +kernel
theorem own_d4_1 : decode jdk_33_method_23_code 1 = .ok (.invokespecial 202, 3) := by decide +kernel
theorem own_d4_4 : decode jdk_33_method_23_code 4 = .ok (.aload_n 0, 1) := by decide +kernel
theorem own_d4_5 : decode jdk_33_method_23_code 5 = .ok (.iload_n 1, 1) := by decide +kernel
theorem own_d4_6 : decode jdk_33_method_23_code 6 = .ok (.putfield 205, 3) := by decide +kernel
theorem own_d4_9 : decode jdk_33_method_23_code 9 = .ok (.return_, 1) := by decide +kernel
theorem own_pn4 : plainName "java/lang/Integer" = true := by first | (simp [plainName, overriddenIn]; done) | decide +kernel
theorem own_pd4_0 : parseMethodDescriptor "()V" = some ⟨[], none⟩ := by decide +kernel
theorem own_ef4 (m : MethodId) (a : Addr) (u : Int32) : entryFrame m #[(.ref a), (.int u)] 2 = mkF m 0 #[.val (.ref a), .val (.int u)] [] := by first | (simp [entryFrame, mkF, argsToLocals, Value.category]; done) | rfl
def own_Q4 (Z : State) (a : Addr) (u : Int32) (h0 : Heap) (n0 : Nat) (v : Option Value) (h : Heap) (L : List Loc) : Prop := v = none ∧ Fr n0 L ∧ Keep h0 h [a] ∧ Exa Z h a "java/lang/Integer"
set_option maxRecDepth 65536 in
set_option maxHeartbeats 40000000 in
theorem own_rm4 (l : Launch) (Z : State) (a0 : Array Value) (hw : ∀ d ∈ tables_1, d.before a0 Z = true) (ws : List Jvm.Cond) (a : Addr) (u : Int32) (h0 : Heap) (n0 : Nat) (Zs : n0 ≤ h0.size) (F_a_value : Fld Z h0 a "java/lang/Integer" "value" "I" (.int (0 : Int32))) (E_a : Exa Z h0 a "java/lang/Integer") (g_a : n0 ≤ a) :
    MetFree l (⟨"java/lang/Integer", "<init>", "(I)V"⟩ : MethodName) (head1 (Jvm.Cond.code (⟨"java/lang/Integer", "<init>", "(I)V"⟩ : MethodName) jdk_33_method_23_code 2 none :: ws) ({ frames := 2, cells := 0, slots := 0, locals := 24 } : Room)) (fun aA_ U => aA_ = #[(.ref a), (.int u)] ∧ Z.Warmed39 U.vm ∧ U.heap = h0) (fun _ _ _ _ _ => True) (fun _ U o U' => ∃ v L, o = .returned v ∧ own_Q4 Z a u h0 n0 v U'.heap L ∧ FrameEnd U o U' L ({ frames := 2, cells := 0, slots := 0, locals := 24 } : Room).cells ({ frames := 2, cells := 0, slots := 0, locals := 24 } : Room).slots) := by
  refine MetFree.of_bodySF (plainFor_of_name own_pn4) hisR ?_
  intro p e s m args below meth c s₁ Bd hml0 hP hK
  obtain ⟨rfl, hZ, hh⟩ := hP
  have hx := Bd.exec
  have hby := Bd.bytes
  have hml : c.maxLocals = 2 := hml0
  have hown : s.vm.findClass "java/lang/Integer" = some m.cls := findClass_of_methodNamed Bd.named
  have hnm := (name_of_methodNamed Bd.named Bd.method).1
  have X0 : Stand p l e ({ frames := 2, cells := 0, slots := 0, locals := 24 } : Room) s m #[(.ref a), (.int u)] below meth c s₁ [] 0 0 := Stand.of_body Bd
  have e0 : s₁.heap = h0 := by rw [← hh, Bd.state]; rfl
  have NF := Fr.nil n0
  rw [own_ef4 m a u]
  show own_Dn p e below s (own_Q4 Z a u h0 n0) 0 0 s₁ (mkF m 0 #[.val (.ref a), .val (.int u)] [])
  have KP := Keep.refl h0 [a]
  refine own_go (T' := s₁) (g' := (mkF m 1 #[.val (.ref a), .val (.int u)] [(.ref a)])) (fun _ k => XS.aloadN X0.here hx rfl (hb hby own_d4_0) rfl rfl k) ?_
  obtain ⟨_, _, ⟨T1, L1, k1, n1⟩, -, X1, ⟨Lc1, hQ1, l1, y1, z1⟩, st1⟩ := X0.specialBack hx (y := (⟨"java/lang/Number", "<init>", "()V"⟩ : MethodName)) rfl hown (mvT hZ (hw _ (List.mem_of_getElem? (i := 39) rfl))) (mvT hZ (hw _ (List.mem_of_getElem? (i := 40) rfl))) (mvT hZ (hw _ (List.mem_of_getElem? (i := 44) rfl))) (by decide) (backOf (W := 0) (own_rm3 l Z a0 hw [] a h0 n0 Zs) hZ (hw _ (List.mem_of_getElem? (i := 44) rfl)) (hw _ (List.mem_of_getElem? (i := 43) rfl)) (by decide) (by decide)) (g := (mkF m 1 #[.val (.ref a), .val (.int u)] [(.ref a)])) rfl (by rw [hml]; rfl) (Steps.refl _) (a := a) (argsL := []) (rest := []) (lenOf own_pd4_0 rfl) rfl (by show 2 * 0 + _ ≤ _; exact Nat.le_of_eq rfl) (hb hby own_d4_1) (fun _ _ => ⟨rfl, e0, (by decide : 0 + 0 ≤ _), (by decide : 0 + 0 ≤ _)⟩)
  dsimp only [Pt.U, Pt.locs, Pt.cells, Pt.slots] at X1 l1 y1 z1 st1 hQ1
  subst l1 y1 z1
  obtain ⟨rfl, NQ1, eq1⟩ := hQ1
  have NF := Fr.app NF NQ1
  refine own_go (T' := T1) (g' := (mkF m 4 #[.val (.ref a), .val (.int u)] [])) (fun _ k => st1.trans k) ?_
  refine own_go (T' := T1) (g' := (mkF m 5 #[.val (.ref a), .val (.int u)] [(.ref a)])) (fun _ k => XS.aloadN X1.here hx rfl (hb hby own_d4_4) rfl rfl k) ?_
  refine own_go (T' := T1) (g' := (mkF m 6 #[.val (.ref a), .val (.int u)] [(.int u), (.ref a)])) (fun _ k => XS.iloadN X1.here hx rfl (hb hby own_d4_5) rfl k) ?_
  obtain ⟨T2, h2, X2, e2, W2, st2⟩ := putF X1 hx hZ hown (host := "") (Or.inl (hw _ (List.mem_of_getElem? (i := 46) rfl))) Via.refl eq1 F_a_value E_a (Or.inr ⟨(hw _ (List.mem_of_getElem? (i := 47) rfl)), rfl, hnm⟩) (hw _ (List.mem_of_getElem? (i := 34) rfl)) (ty := .int) (by decide) rfl rfl (g := (mkF m 6 #[.val (.ref a), .val (.int u)] [(.int u), (.ref a)])) rfl rfl (hb hby own_d4_6)
  have E_a := E_a.wr W2
  have Zs := Nat.le_trans Zs (Keep.of_wr W2).1
  have F_a_value := F_a_value.same W2
  have KP := KP.wr W2 (Or.inl (by simp))
  have NF := Fr.snoc X2 NF g_a
  refine own_go (T' := T2) (g' := (mkF m 9 #[.val (.ref a), .val (.int u)] [])) (fun _ k => st2 _ k) ?_
  refine own_ret X2 Bd.notSynchronized none (fun _ => rfl) (fun fs hr => X2.returnOut hx Bd.returns (hb hby own_d4_9) hr) ?_ (by decide) (by decide)
  show (own_Q4 Z a u h0 n0) none T2.heap _
  rw [e2]
  exact ⟨rfl, NF, KP, E_a⟩
theorem own_d5_0 : decode jdk_33_method_22_code 0 = .ok (.iload_n 0, 1) := by decide +kernel
theorem own_d5_1 : decode jdk_33_method_22_code 1 = .ok (.bipush (-128), 2) := by decide +kernel
theorem own_d5_3 : decode jdk_33_method_22_code 3 = .ok (.if_icmp .lt 20, 3) := by decide +kernel
theorem own_d5_6 : decode jdk_33_method_22_code 6 = .ok (.iload_n 0, 1) := by decide +kernel
theorem own_d5_7 : decode jdk_33_method_22_code 7 = .ok (.getstatic 191, 3) := by decide +kernel
theorem own_d5_10 : decode jdk_33_method_22_code 10 = .ok (.if_icmp .gt 13, 3) := by decide +kernel
theorem own_d5_13 : decode jdk_33_method_22_code 13 = .ok (.getstatic 195, 3) := by decide +kernel
theorem own_d5_16 : decode jdk_33_method_22_code 16 = .ok (.iload_n 0, 1) := by decide +kernel
theorem own_d5_17 : decode jdk_33_method_22_code 17 = .ok (.sipush 128, 3) := by decide +kernel
theorem own_d5_20 : decode jdk_33_method_22_code 20 = .ok (.iadd, 1) := by decide +kernel
theorem own_d5_21 : decode jdk_33_method_22_code 21 = .ok (.aaload, 1) := by decide +kernel
theorem own_d5_22 : decode jdk_33_method_22_code 22 = .ok (.areturn, 1) := by decide +kernel
theorem own_d5_23 : decode jdk_33_method_22_code 23 = .ok (.new 1, 3) := by decide +kernel
theorem own_d5_26 : decode jdk_33_method_22_code 26 = .ok (.dup, 1) := by decide +kernel
theorem own_d5_27 : decode jdk_33_method_22_code 27 = .ok (.iload_n 0, 1) := by decide +kernel
theorem own_d5_28 : decode jdk_33_method_22_code 28 = .ok (.invokespecial 199, 3) := by decide +kernel
theorem own_d5_31 : decode jdk_33_method_22_code 31 = .ok (.areturn, 1) := by decide +kernel
theorem own_pn5 : plainName "java/lang/Integer" = true := by first | (simp [plainName, overriddenIn]; done) | decide +kernel
theorem own_pd5_0 : parseMethodDescriptor "(I)V" = some ⟨[.int], none⟩ := by decide +kernel
theorem own_ef5 (m : MethodId) (u : Int32) : entryFrame m #[(.int u)] 1 = mkF m 0 #[.val (.int u)] [] := by first | (simp [entryFrame, mkF, argsToLocals, Value.category]; done) | rfl
def own_Q5 (Z : State) (u : Int32) (ca : Addr) (cc : Cell) (bval : Int32 → Value) (h0 : Heap) (n0 : Nat) (v : Option Value) (h : Heap) (L : List Loc) : Prop := (∃ bx : Addr, v = some (.ref bx) ∧ Exa Z h bx "java/lang/Integer") ∧ Fr n0 L ∧ Keep h0 h []
set_option maxRecDepth 65536 in
set_option maxHeartbeats 40000000 in
theorem own_rm5 (l : Launch) (Z : State) (a0 : Array Value) (hw : ∀ d ∈ tables_1, d.before a0 Z = true) (ws : List Jvm.Cond) (u : Int32) (ca : Addr) (cc : Cell) (bval : Int32 → Value) (h0 : Heap) (n0 : Nat) (Zs : n0 ≤ h0.size) (OL : Old Z n0 h0) (S_high : Sta Z Z.heap "java/lang/Integer$IntegerCache" "high" "I" (.int (127 : Int32))) (S_cache : Sta Z Z.heap "java/lang/Integer$IntegerCache" "cache" "[Ljava/lang/Integer;" (.ref ca)) (BX : Bxs Z ca cc "java/lang/Integer" "I" (256 : Int32) bval) :
    MetFree l (⟨"java/lang/Integer", "valueOf", "(I)Ljava/lang/Integer;"⟩ : MethodName) (head1 (Jvm.Cond.code (⟨"java/lang/Integer", "valueOf", "(I)Ljava/lang/Integer;"⟩ : MethodName) jdk_33_method_22_code 1 (some (.object "java/lang/Integer")) :: ws) ({ frames := 3, cells := 1, slots := 1, locals := 38 } : Room)) (fun aA_ U => aA_ = #[(.int u)] ∧ Z.Warmed39 U.vm ∧ U.heap = h0) (fun _ _ _ _ _ => True) (fun _ U o U' => ∃ v L, o = .returned v ∧ own_Q5 Z u ca cc bval h0 n0 v U'.heap L ∧ FrameEnd U o U' L ({ frames := 3, cells := 1, slots := 1, locals := 38 } : Room).cells ({ frames := 3, cells := 1, slots := 1, locals := 38 } : Room).slots) := by
  refine MetFree.of_bodySF (plainFor_of_name own_pn5) hisR ?_
  intro p e s m args below meth c s₁ Bd hml0 hP hK
  obtain ⟨rfl, hZ, hh⟩ := hP
  have hx := Bd.exec
  have hby := Bd.bytes
  have hml : c.maxLocals = 1 := hml0
  have hown : s.vm.findClass "java/lang/Integer" = some m.cls := findClass_of_methodNamed Bd.named
  have hnm := (name_of_methodNamed Bd.named Bd.method).1
  have X0 : Stand p l e ({ frames := 3, cells := 1, slots := 1, locals := 38 } : Room) s m #[(.int u)] below meth c s₁ [] 0 0 := Stand.of_body Bd
  have e0 : s₁.heap = h0 := by rw [← hh, Bd.state]; rfl
  have NF := Fr.nil n0
  rw [own_ef5 m u]
  show own_Dn p e below s (own_Q5 Z u ca cc bval h0 n0) 1 1 s₁ (mkF m 0 #[.val (.int u)] [])
  have KP := Keep.refl h0 []
  refine own_go (T' := s₁) (g' := (mkF m 1 #[.val (.int u)] [(.int u)])) (fun _ k => XS.iloadN X0.here hx rfl (hb hby own_d5_0) rfl k) ?_
  refine own_go (T' := s₁) (g' := (mkF m 3 #[.val (.int u)] [(.int (-128 : Int32)), (.int u)])) (fun _ k => XS.bipush X0.here hx rfl (hb hby own_d5_1) k) ?_
  by_cases c1 : u < (-128 : Int32)
  · refine own_go (T' := s₁) (g' := (mkF m 23 #[.val (.int u)] [])) (fun _ k => XS.icmpYes X0.here hx rfl (pc0 := 3) (pc' := 23) rfl (hb hby own_d5_3) rfl (tlt c1).1 (by decide) (by decide) k) ?_
    obtain ⟨T2, h2, X2, e2, E2, A2, D2, -, st2⟩ := newO X0 hx hZ hown (hw _ (List.mem_of_getElem? (i := 33) rfl)) (hw _ (List.mem_of_getElem? (i := 34) rfl)) (hw _ (List.mem_of_getElem? (i := 29) rfl)) e0 (g := (mkF m 23 #[.val (.int u)] [])) rfl (hb hby own_d5_23) (by decide) (by decide)
    obtain ⟨b2, g2⟩ : ∃ z, z = h0.size := ⟨_, rfl⟩
    rw [← g2] at A2 D2 st2
    have g_b2 : n0 ≤ b2 := Nat.le_trans Zs (Nat.le_of_eq g2.symm)
    have sz_b2 : h0.size ≤ b2 := Nat.le_trans KP.1 (Nat.le_of_eq g2.symm)
    have OL := OL.ext E2
    have KP := KP.ext E2
    have Zs := Nat.le_trans Zs E2.1
    have E_b2 := A2
    have F_b2_value : Fld Z h2 b2 "java/lang/Integer" "value" "I" (.int (0 : Int32)) := D2 (Or.inr (hw _ (List.mem_of_getElem? (i := 47) rfl))) (ty := .int) (by decide)
    refine own_go (T' := T2) (g' := (mkF m 26 #[.val (.int u)] [(.ref b2)])) (fun _ k => st2 _ k) ?_
    refine own_go (T' := T2) (g' := (mkF m 27 #[.val (.int u)] [(.ref b2), (.ref b2)])) (fun _ k => XS.dup X2.here hx rfl (hb hby own_d5_26) rfl rfl k) ?_
    refine own_go (T' := T2) (g' := (mkF m 28 #[.val (.int u)] [(.int u), (.ref b2), (.ref b2)])) (fun _ k => XS.iloadN X2.here hx rfl (hb hby own_d5_27) rfl k) ?_
    obtain ⟨_, _, ⟨T3, L3, k3, n3⟩, -, X3, ⟨Lc3, hQ3, l3, y3, z3⟩, st3⟩ := X2.specialBack hx (y := (⟨"java/lang/Integer", "<init>", "(I)V"⟩ : MethodName)) rfl hown (mvT hZ (hw _ (List.mem_of_getElem? (i := 35) rfl))) (mvT hZ (hw _ (List.mem_of_getElem? (i := 36) rfl))) (mvT hZ (hw _ (List.mem_of_getElem? (i := 38) rfl))) (by decide) (backOf (W := 1) (own_rm4 l Z a0 hw [] b2 u h2 n0 Zs F_b2_value E_b2 g_b2) hZ (hw _ (List.mem_of_getElem? (i := 38) rfl)) (hw _ (List.mem_of_getElem? (i := 29) rfl)) (by decide) (by decide)) (g := (mkF m 28 #[.val (.int u)] [(.int u), (.ref b2), (.ref b2)])) rfl (by rw [hml]; rfl) (Steps.refl _) (a := b2) (argsL := [(.int u)]) (rest := [(.ref b2)]) (lenOf own_pd5_0 rfl) rfl (by show 2 * 0 + _ ≤ _; exact Nat.le_of_eq rfl) (hb hby own_d5_28) (fun _ _ => ⟨rfl, e2, (by decide : 1 + 0 ≤ _), (by decide : 1 + 0 ≤ _)⟩)
    dsimp only [Pt.U, Pt.locs, Pt.cells, Pt.slots] at X3 l3 y3 z3 st3 hQ3
    subst l3 y3 z3
    obtain ⟨rfl, NQ3, K3, E_b2⟩ := hQ3
    have NF := Fr.app NF NQ3
    have OL := OL.keep K3 (allS g_b2 all0)
    have Zs := Nat.le_trans Zs K3.1
    have KP := KP.trans K3 ((allS (Or.inr sz_b2) all0))
    refine own_go (T' := T3) (g' := (mkF m 31 #[.val (.int u)] [(.ref b2)])) (fun _ k => st3.trans k) ?_
    refine own_ret X3 Bd.notSynchronized (some (.ref b2)) (fun h => by rw [Bd.returns] at h; cases h) (fun fs hr => retOut X3 hx (t := (.object "java/lang/Integer")) Bd.returns rfl (Or.inr (Or.inr (Or.inr (Or.inr ⟨rfl, rfl, rfl⟩)))) (hb hby own_d5_31) hr) ?_ (by decide) (by decide)
    show (own_Q5 Z u ca cc bval h0 n0) (some (.ref b2)) T3.heap _
    exact ⟨⟨_, rfl, E_b2⟩, NF, KP⟩
  · refine own_go (T' := s₁) (g' := (mkF m 6 #[.val (.int u)] [])) (fun _ k => XS.icmpNo X0.here hx rfl (hb hby own_d5_3) rfl (flt c1).1 k) ?_
    refine own_go (T' := s₁) (g' := (mkF m 7 #[.val (.int u)] [(.int u)])) (fun _ k => XS.iloadN X0.here hx rfl (hb hby own_d5_6) rfl k) ?_
    obtain ⟨T4, X4, e4, st4⟩ := getS2 X0 hx hZ hown (host := "") (Or.inl (hw _ (List.mem_of_getElem? (i := 31) rfl))) Via.refl e0 (S_high.ext OL.2) (g := (mkF m 7 #[.val (.int u)] [(.int u)])) rfl (hb hby own_d5_7)
    refine own_go (T' := T4) (g' := (mkF m 10 #[.val (.int u)] [(.int (127 : Int32)), (.int u)])) (fun _ k => st4 _ k) ?_
    by_cases c5 : (127 : Int32) < u
    · refine own_go (T' := T4) (g' := (mkF m 23 #[.val (.int u)] [])) (fun _ k => XS.icmpYes X4.here hx rfl (pc0 := 10) (pc' := 23) rfl (hb hby own_d5_10) rfl (tlt c5).2.2.1 (by decide) (by decide) k) ?_
      obtain ⟨T6, h6, X6, e6, E6, A6, D6, -, st6⟩ := newO X4 hx hZ hown (hw _ (List.mem_of_getElem? (i := 33) rfl)) (hw _ (List.mem_of_getElem? (i := 34) rfl)) (hw _ (List.mem_of_getElem? (i := 29) rfl)) e4 (g := (mkF m 23 #[.val (.int u)] [])) rfl (hb hby own_d5_23) (by decide) (by decide)
      obtain ⟨b6, g6⟩ : ∃ z, z = h0.size := ⟨_, rfl⟩
      rw [← g6] at A6 D6 st6
      have g_b6 : n0 ≤ b6 := Nat.le_trans Zs (Nat.le_of_eq g6.symm)
      have sz_b6 : h0.size ≤ b6 := Nat.le_trans KP.1 (Nat.le_of_eq g6.symm)
      have OL := OL.ext E6
      have KP := KP.ext E6
      have Zs := Nat.le_trans Zs E6.1
      have E_b6 := A6
      have F_b6_value : Fld Z h6 b6 "java/lang/Integer" "value" "I" (.int (0 : Int32)) := D6 (Or.inr (hw _ (List.mem_of_getElem? (i := 47) rfl))) (ty := .int) (by decide)
      refine own_go (T' := T6) (g' := (mkF m 26 #[.val (.int u)] [(.ref b6)])) (fun _ k => st6 _ k) ?_
      refine own_go (T' := T6) (g' := (mkF m 27 #[.val (.int u)] [(.ref b6), (.ref b6)])) (fun _ k => XS.dup X6.here hx rfl (hb hby own_d5_26) rfl rfl k) ?_
      refine own_go (T' := T6) (g' := (mkF m 28 #[.val (.int u)] [(.int u), (.ref b6), (.ref b6)])) (fun _ k => XS.iloadN X6.here hx rfl (hb hby own_d5_27) rfl k) ?_
      obtain ⟨_, _, ⟨T7, L7, k7, n7⟩, -, X7, ⟨Lc7, hQ7, l7, y7, z7⟩, st7⟩ := X6.specialBack hx (y := (⟨"java/lang/Integer", "<init>", "(I)V"⟩ : MethodName)) rfl hown (mvT hZ (hw _ (List.mem_of_getElem? (i := 35) rfl))) (mvT hZ (hw _ (List.mem_of_getElem? (i := 36) rfl))) (mvT hZ (hw _ (List.mem_of_getElem? (i := 38) rfl))) (by decide) (backOf (W := 1) (own_rm4 l Z a0 hw [] b6 u h6 n0 Zs F_b6_value E_b6 g_b6) hZ (hw _ (List.mem_of_getElem? (i := 38) rfl)) (hw _ (List.mem_of_getElem? (i := 29) rfl)) (by decide) (by decide)) (g := (mkF m 28 #[.val (.int u)] [(.int u), (.ref b6), (.ref b6)])) rfl (by rw [hml]; rfl) (Steps.refl _) (a := b6) (argsL := [(.int u)]) (rest := [(.ref b6)]) (lenOf own_pd5_0 rfl) rfl (by show 2 * 0 + _ ≤ _; exact Nat.le_of_eq rfl) (hb hby own_d5_28) (fun _ _ => ⟨rfl, e6, (by decide : 1 + 0 ≤ _), (by decide : 1 + 0 ≤ _)⟩)
      dsimp only [Pt.U, Pt.locs, Pt.cells, Pt.slots] at X7 l7 y7 z7 st7 hQ7
      subst l7 y7 z7
      obtain ⟨rfl, NQ7, K7, E_b6⟩ := hQ7
      have NF := Fr.app NF NQ7
      have OL := OL.keep K7 (allS g_b6 all0)
      have Zs := Nat.le_trans Zs K7.1
      have KP := KP.trans K7 ((allS (Or.inr sz_b6) all0))
      refine own_go (T' := T7) (g' := (mkF m 31 #[.val (.int u)] [(.ref b6)])) (fun _ k => st7.trans k) ?_
      refine own_ret X7 Bd.notSynchronized (some (.ref b6)) (fun h => by rw [Bd.returns] at h; cases h) (fun fs hr => retOut X7 hx (t := (.object "java/lang/Integer")) Bd.returns rfl (Or.inr (Or.inr (Or.inr (Or.inr ⟨rfl, rfl, rfl⟩)))) (hb hby own_d5_31) hr) ?_ (by decide) (by decide)
      show (own_Q5 Z u ca cc bval h0 n0) (some (.ref b6)) T7.heap _
      exact ⟨⟨_, rfl, E_b6⟩, NF, KP⟩
    · refine own_go (T' := T4) (g' := (mkF m 13 #[.val (.int u)] [])) (fun _ k => XS.icmpNo X4.here hx rfl (hb hby own_d5_10) rfl (flt c5).2.2.1 k) ?_
      obtain ⟨T8, X8, e8, st8⟩ := getS2 X4 hx hZ hown (host := "") (Or.inl (hw _ (List.mem_of_getElem? (i := 51) rfl))) Via.refl e4 (S_cache.ext OL.2) (g := (mkF m 13 #[.val (.int u)] [])) rfl (hb hby own_d5_13)
      refine own_go (T' := T8) (g' := (mkF m 16 #[.val (.int u)] [(.ref ca)])) (fun _ k => st8 _ k) ?_
      refine own_go (T' := T8) (g' := (mkF m 17 #[.val (.int u)] [(.int u), (.ref ca)])) (fun _ k => XS.iloadN X8.here hx rfl (hb hby own_d5_16) rfl k) ?_
      refine own_go (T' := T8) (g' := (mkF m 20 #[.val (.int u)] [(.int (128 : Int32)), (.int u), (.ref ca)])) (fun _ k => XS.sipush X8.here hx rfl (hb hby own_d5_17) k) ?_
      refine own_go (T' := T8) (g' := (mkF m 21 #[.val (.int u)] [(.int (u + (128 : Int32))), (.ref ca)])) (fun _ k => XS.iadd X8.here hx rfl (hb hby own_d5_20) rfl k) ?_
      have f8 := c_iadd u (128 : Int32)
      have r8 := rng32 (u + (128 : Int32))
      simp only [own_ln128, own_l0, own_l1, own_l2, own_l3, own_l29, own_l31, own_l127, own_l128, own_l256, own_l2147483647] at f8
      have hin : ¬ ((u + (128 : Int32)) < 0 ∨ cc.slots.size ≤ ((u + (128 : Int32))).toNatClampNeg) := inb_of BX.2.1 ⟨by (try simp only [own_ln128, own_l0, own_l1, own_l2, own_l3, own_l29, own_l31, own_l127, own_l128, own_l256, own_l2147483647, Int32.lt_iff_toInt_lt, ← Int32.toInt_inj, Int64.lt_iff_toInt_lt, ← Int64.toInt_inj, and_true, true_and, and_false, false_and, or_true, true_or, or_false, false_or, not_true_eq_false, not_false_eq_true, ne_eq, true_implies, false_implies, implies_true] at c1 c5 ⊢) <;> omega, by (try simp only [own_ln128, own_l0, own_l1, own_l2, own_l3, own_l29, own_l31, own_l127, own_l128, own_l256, own_l2147483647, Int32.lt_iff_toInt_lt, ← Int32.toInt_inj, Int64.lt_iff_toInt_lt, ← Int64.toInt_inj, and_true, true_and, and_false, false_and, or_true, true_or, or_false, false_or, not_true_eq_false, not_false_eq_true, ne_eq, true_implies, false_implies, implies_true] at c1 c5 ⊢) <;> omega⟩
      obtain ⟨bx, hat, EB, -⟩ := BX.2.2.2 _ hin
      have Ar := BX.1.ext OL.2
      refine own_go (T' := T8) (g' := (mkF m 22 #[.val (.int u)] [(.ref bx)])) (fun _ k => X8.aaload hx (j := (u + (128 : Int32))) (v := (.ref bx)) (by rw [e8]; exact Ar.1) (State.isArrayOf_alike hZ.alike Ar.2.1) rfl Ar.2.2 hin hat (g := (mkF m 21 #[.val (.int u)] [(.int (u + (128 : Int32))), (.ref ca)])) rfl rfl (hb hby own_d5_21) _ k) ?_
      refine own_ret X8 Bd.notSynchronized (some (.ref bx)) (fun h => by rw [Bd.returns] at h; cases h) (fun fs hr => retOut X8 hx (t := (.object "java/lang/Integer")) Bd.returns rfl (Or.inr (Or.inr (Or.inr (Or.inr ⟨rfl, rfl, rfl⟩)))) (hb hby own_d5_22) hr) ?_ (by decide) (by decide)
      show (own_Q5 Z u ca cc bval h0 n0) (some (.ref bx)) T8.heap _
      rw [e8]
      exact ⟨⟨_, rfl, EB.ext OL.2⟩, NF, KP⟩
theorem own_d6_0 : decode prog_19_method_6_code 0 = .ok (.aload_n 1, 1) := by decide +kernel
theorem own_d6_1 : decode prog_19_method_6_code 1 = .ok (.instanceof 23, 3) := by decide +kernel
theorem own_d6_4 : decode prog_19_method_6_code 4 = .ok (.ifCond .ne 5, 3) := by decide +kernel
theorem own_d6_9 : decode prog_19_method_6_code 9 = .ok (.aload_n 1, 1) := by decide +kernel
theorem own_d6_10 : decode prog_19_method_6_code 10 = .ok (.checkcast 23, 3) := by decide +kernel
theorem own_d6_13 : decode prog_19_method_6_code 13 = .ok (.astore_n 2, 1) := by decide +kernel
theorem own_d6_14 : decode prog_19_method_6_code 14 = .ok (.aload_n 0, 1) := by decide +kernel
theorem own_d6_15 : decode prog_19_method_6_code 15 = .ok (.getfield 22, 3) := by decide +kernel
theorem own_d6_18 : decode prog_19_method_6_code 18 = .ok (.aload_n 2, 1) := by decide +kernel
theorem own_d6_19 : decode prog_19_method_6_code 19 = .ok (.getfield 22, 3) := by decide +kernel
theorem own_d6_22 : decode prog_19_method_6_code 22 = .ok (.if_icmp .ne 29, 3) := by decide +kernel
theorem own_d6_25 : decode prog_19_method_6_code 25 = .ok (.aload_n 0, 1) := by decide +kernel
theorem own_d6_26 : decode prog_19_method_6_code 26 = .ok (.getfield 28, 3) := by decide +kernel
theorem own_d6_29 : decode prog_19_method_6_code 29 = .ok (.aload_n 2, 1) := by decide +kernel
theorem own_d6_30 : decode prog_19_method_6_code 30 = .ok (.getfield 28, 3) := by decide +kernel
theorem own_d6_33 : decode prog_19_method_6_code 33 = .ok (.if_icmp .ne 18, 3) := by decide +kernel
theorem own_d6_36 : decode prog_19_method_6_code 36 = .ok (.aload_n 0, 1) := by decide +kernel
theorem own_d6_37 : decode prog_19_method_6_code 37 = .ok (.getfield 31, 3) := by decide +kernel
theorem own_d6_40 : decode prog_19_method_6_code 40 = .ok (.aload_n 2, 1) := by decide +kernel
theorem own_d6_41 : decode prog_19_method_6_code 41 = .ok (.getfield 31, 3) := by decide +kernel
theorem own_d6_44 : decode prog_19_method_6_code 44 = .ok (.if_icmp .ne 7, 3) := by decide +kernel
theorem own_d6_47 : decode prog_19_method_6_code 47 = .ok (.iconst 1, 1) := by decide +kernel
theorem own_d6_48 : decode prog_19_method_6_code 48 = .ok (.goto 4, 3) := by decide +kernel
theorem own_d6_51 : decode prog_19_method_6_code 51 = .ok (.iconst 0, 1) := by decide +kernel
theorem own_d6_52 : decode prog_19_method_6_code 52 = .ok (.ireturn, 1) := by decide +kernel
theorem own_pn6 : plainName "com/example/godwit/godwit/StoreSettings" = true := by first | (simp [plainName, overriddenIn]; done) | decide +kernel
theorem own_ef6 (m : MethodId) (a : Addr) (b : Addr) : entryFrame m #[(.ref a), (.ref b)] 3 = mkF m 0 #[.val (.ref a), .val (.ref b), .unset] [] := by first | (simp [entryFrame, mkF, argsToLocals, Value.category]; done) | rfl
def own_Q6 (Z : State) (a : Addr) (b : Addr) (i1 : Int32) (i2 : Int32) (i3 : Int32) (k1 : Int32) (k2 : Int32) (k3 : Int32) (h0 : Heap) (n0 : Nat) (v : Option Value) (h : Heap) (L : List Loc) : Prop := v = some (.int (if (i1.toInt = k1.toInt ∧ i2.toInt = k2.toInt ∧ i3.toInt = k3.toInt) then 1 else 0)) ∧ Fr n0 L ∧ h = h0
set_option maxRecDepth 65536 in
set_option maxHeartbeats 40000000 in
theorem own_rm6 (l : Launch) (Z : State) (a0 : Array Value) (hw : ∀ d ∈ tables_1, d.before a0 Z = true) (ws : List Jvm.Cond) (a : Addr) (b : Addr) (i1 : Int32) (i2 : Int32) (i3 : Int32) (k1 : Int32) (k2 : Int32) (k3 : Int32) (h0 : Heap) (n0 : Nat) (Zs : n0 ≤ h0.size) (F_a_timeBinSeconds : Fld Z h0 a "com/example/godwit/godwit/StoreSettings" "timeBinSeconds" "I" (.int i1)) (F_a_hilbertBits : Fld Z h0 a "com/example/godwit/godwit/StoreSettings" "hilbertBits" "I" (.int i2)) (F_a_xzResolution : Fld Z h0 a "com/example/godwit/godwit/StoreSettings" "xzResolution" "I" (.int i3)) (F_b_timeBinSeconds : Fld Z h0 b "com/example/godwit/godwit/StoreSettings" "timeBinSeconds" "I" (.int k1)) (F_b_hilbertBits : Fld Z h0 b "com/example/godwit/godwit/StoreSettings" "hilbertBits" "I" (.int k2)) (F_b_xzResolution : Fld Z h0 b "com/example/godwit/godwit/StoreSettings" "xzResolution" "I" (.int k3)) (E_b : Exa Z h0 b "com/example/godwit/godwit/StoreSettings") :
    MetFree l (⟨"com/example/godwit/godwit/StoreSettings", "equals", "(Ljava/lang/Object;)Z"⟩ : MethodName) (head1 (Jvm.Cond.code (⟨"com/example/godwit/godwit/StoreSettings", "equals", "(Ljava/lang/Object;)Z"⟩ : MethodName) prog_19_method_6_code 3 (some .boolean) :: ws) ({ frames := 0, cells := 0, slots := 0, locals := 0 } : Room)) (fun aA_ U => aA_ = #[(.ref a), (.ref b)] ∧ Z.Warmed39 U.vm ∧ U.heap = h0) (fun _ _ _ _ _ => True) (fun _ U o U' => ∃ v L, o = .returned v ∧ own_Q6 Z a b i1 i2 i3 k1 k2 k3 h0 n0 v U'.heap L ∧ FrameEnd U o U' L ({ frames := 0, cells := 0, slots := 0, locals := 0 } : Room).cells ({ frames := 0, cells := 0, slots := 0, locals := 0 } : Room).slots) := by
  refine MetFree.of_bodySF (plainFor_of_name own_pn6) hisR ?_
  intro p e s m args below meth c s₁ Bd hml0 hP hK
  obtain ⟨rfl, hZ, hh⟩ := hP
  have hx := Bd.exec
  have hby := Bd.bytes
  have hml : c.maxLocals = 3 := hml0
  have hown : s.vm.findClass "com/example/godwit/godwit/StoreSettings" = some m.cls := findClass_of_methodNamed Bd.named
  have hnm := (name_of_methodNamed Bd.named Bd.method).1
  have X0 : Stand p l e ({ frames := 0, cells := 0, slots := 0, locals := 0 } : Room) s m #[(.ref a), (.ref b)] below meth c s₁ [] 0 0 := Stand.of_body Bd
  have e0 : s₁.heap = h0 := by rw [← hh, Bd.state]; rfl
  have NF := Fr.nil n0
  rw [own_ef6 m a b]
  show own_Dn p e below s (own_Q6 Z a b i1 i2 i3 k1 k2 k3 h0 n0) 0 0 s₁ (mkF m 0 #[.val (.ref a), .val (.ref b), .unset] [])
  refine own_go (T' := s₁) (g' := (mkF m 1 #[.val (.ref a), .val (.ref b), .unset] [(.ref b)])) (fun _ k => XS.aloadN X0.here hx rfl (hb hby own_d6_0) rfl rfl k) ?_
  obtain ⟨T1, X1, e1, st1⟩ := instY X0 hx hZ hown (hw _ (List.mem_of_getElem? (i := 21) rfl)) e0 (Ins.self E_b) (g := (mkF m 1 #[.val (.ref a), .val (.ref b), .unset] [(.ref b)])) rfl rfl (hb hby own_d6_1)
  refine own_go (T' := T1) (g' := (mkF m 4 #[.val (.ref a), .val (.ref b), .unset] [(.int (1 : Int32))])) (fun _ k => st1 _ k) ?_
  refine own_go (T' := T1) (g' := (mkF m 9 #[.val (.ref a), .val (.ref b), .unset] [])) (fun _ k => XS.ifYes X1.here hx rfl (pc0 := 4) (pc' := 9) rfl (hb hby own_d6_4) rfl (by decide) (by decide) (by decide) k) ?_
  refine own_go (T' := T1) (g' := (mkF m 10 #[.val (.ref a), .val (.ref b), .unset] [(.ref b)])) (fun _ k => XS.aloadN X1.here hx rfl (hb hby own_d6_9) rfl rfl k) ?_
  obtain ⟨T2, X2, e2, st2⟩ := castY X1 hx hZ hown (hw _ (List.mem_of_getElem? (i := 21) rfl)) e1 (Ins.self E_b) (g := (mkF m 10 #[.val (.ref a), .val (.ref b), .unset] [(.ref b)])) rfl rfl (hb hby own_d6_10)
  refine own_go (T' := T2) (g' := (mkF m 13 #[.val (.ref a), .val (.ref b), .unset] [(.ref b)])) (fun _ k => st2 _ k) ?_
  refine own_go (T' := T2) (g' := (mkF m 14 #[.val (.ref a), .val (.ref b), .val (.ref b)] [])) (fun _ k => XS.astoreN X2.here hx rfl (hb hby own_d6_13) rfl rfl (l' := #[.val (.ref a), .val (.ref b), .val (.ref b)]) rfl k) ?_
  refine own_go (T' := T2) (g' := (mkF m 15 #[.val (.ref a), .val (.ref b), .val (.ref b)] [(.ref a)])) (fun _ k => XS.aloadN X2.here hx rfl (hb hby own_d6_14) rfl rfl k) ?_
  obtain ⟨T3, X3, e3, st3⟩ := getF X2 hx hZ hown (host := "") (Or.inl (hw _ (List.mem_of_getElem? (i := 10) rfl))) Via.refl e2 F_a_timeBinSeconds (g := (mkF m 15 #[.val (.ref a), .val (.ref b), .val (.ref b)] [(.ref a)])) rfl rfl (hb hby own_d6_15)
  refine own_go (T' := T3) (g' := (mkF m 18 #[.val (.ref a), .val (.ref b), .val (.ref b)] [(.int i1)])) (fun _ k => st3 _ k) ?_
  refine own_go (T' := T3) (g' := (mkF m 19 #[.val (.ref a), .val (.ref b), .val (.ref b)] [(.ref b), (.int i1)])) (fun _ k => XS.aloadN X3.here hx rfl (hb hby own_d6_18) rfl rfl k) ?_
  obtain ⟨T4, X4, e4, st4⟩ := getF X3 hx hZ hown (host := "") (Or.inl (hw _ (List.mem_of_getElem? (i := 10) rfl))) Via.refl e3 F_b_timeBinSeconds (g := (mkF m 19 #[.val (.ref a), .val (.ref b), .val (.ref b)] [(.ref b), (.int i1)])) rfl rfl (hb hby own_d6_19)
  refine own_go (T' := T4) (g' := (mkF m 22 #[.val (.ref a), .val (.ref b), .val (.ref b)] [(.int k1), (.int i1)])) (fun _ k => st4 _ k) ?_
  by_cases c5 : i1 = k1
  · refine own_go (T' := T4) (g' := (mkF m 25 #[.val (.ref a), .val (.ref b), .val (.ref b)] [])) (fun _ k => XS.icmpNo X4.here hx rfl (hb hby own_d6_22) rfl (teq c5).2 k) ?_
    refine own_go (T' := T4) (g' := (mkF m 26 #[.val (.ref a), .val (.ref b), .val (.ref b)] [(.ref a)])) (fun _ k => XS.aloadN X4.here hx rfl (hb hby own_d6_25) rfl rfl k) ?_
    obtain ⟨T6, X6, e6, st6⟩ := getF X4 hx hZ hown (host := "") (Or.inl (hw _ (List.mem_of_getElem? (i := 12) rfl))) Via.refl e4 F_a_hilbertBits (g := (mkF m 26 #[.val (.ref a), .val (.ref b), .val (.ref b)] [(.ref a)])) rfl rfl (hb hby own_d6_26)
    refine own_go (T' := T6) (g' := (mkF m 29 #[.val (.ref a), .val (.ref b), .val (.ref b)] [(.int i2)])) (fun _ k => st6 _ k) ?_
    refine own_go (T' := T6) (g' := (mkF m 30 #[.val (.ref a), .val (.ref b), .val (.ref b)] [(.ref b), (.int i2)])) (fun _ k => XS.aloadN X6.here hx rfl (hb hby own_d6_29) rfl rfl k) ?_
    obtain ⟨T7, X7, e7, st7⟩ := getF X6 hx hZ hown (host := "") (Or.inl (hw _ (List.mem_of_getElem? (i := 12) rfl))) Via.refl e6 F_b_hilbertBits (g := (mkF m 30 #[.val (.ref a), .val (.ref b), .val (.ref b)] [(.ref b), (.int i2)])) rfl rfl (hb hby own_d6_30)
    refine own_go (T' := T7) (g' := (mkF m 33 #[.val (.ref a), .val (.ref b), .val (.ref b)] [(.int k2), (.int i2)])) (fun _ k => st7 _ k) ?_
    by_cases c8 : i2 = k2
    · refine own_go (T' := T7) (g' := (mkF m 36 #[.val (.ref a), .val (.ref b), .val (.ref b)] [])) (fun _ k => XS.icmpNo X7.here hx rfl (hb hby own_d6_33) rfl (teq c8).2 k) ?_
      refine own_go (T' := T7) (g' := (mkF m 37 #[.val (.ref a), .val (.ref b), .val (.ref b)] [(.ref a)])) (fun _ k => XS.aloadN X7.here hx rfl (hb hby own_d6_36) rfl rfl k) ?_
      obtain ⟨T9, X9, e9, st9⟩ := getF X7 hx hZ hown (host := "") (Or.inl (hw _ (List.mem_of_getElem? (i := 14) rfl))) Via.refl e7 F_a_xzResolution (g := (mkF m 37 #[.val (.ref a), .val (.ref b), .val (.ref b)] [(.ref a)])) rfl rfl (hb hby own_d6_37)
      refine own_go (T' := T9) (g' := (mkF m 40 #[.val (.ref a), .val (.ref b), .val (.ref b)] [(.int i3)])) (fun _ k => st9 _ k) ?_
      refine own_go (T' := T9) (g' := (mkF m 41 #[.val (.ref a), .val (.ref b), .val (.ref b)] [(.ref b), (.int i3)])) (fun _ k => XS.aloadN X9.here hx rfl (hb hby own_d6_40) rfl rfl k) ?_
      obtain ⟨T10, X10, e10, st10⟩ := getF X9 hx hZ hown (host := "") (Or.inl (hw _ (List.mem_of_getElem? (i := 14) rfl))) Via.refl e9 F_b_xzResolution (g := (mkF m 41 #[.val (.ref a), .val (.ref b), .val (.ref b)] [(.ref b), (.int i3)])) rfl rfl (hb hby own_d6_41)
      refine own_go (T' := T10) (g' := (mkF m 44 #[.val (.ref a), .val (.ref b), .val (.ref b)] [(.int k3), (.int i3)])) (fun _ k => st10 _ k) ?_
      by_cases c11 : i3 = k3
      · refine own_go (T' := T10) (g' := (mkF m 47 #[.val (.ref a), .val (.ref b), .val (.ref b)] [])) (fun _ k => XS.icmpNo X10.here hx rfl (hb hby own_d6_44) rfl (teq c11).2 k) ?_
        refine own_go (T' := T10) (g' := (mkF m 48 #[.val (.ref a), .val (.ref b), .val (.ref b)] [(.int (1 : Int32))])) (fun _ k => XS.iconst X10.here hx rfl (hb hby own_d6_47) k) ?_
        refine own_go (T' := T10) (g' := (mkF m 52 #[.val (.ref a), .val (.ref b), .val (.ref b)] [(.int (1 : Int32))])) (fun _ k => XS.goto X10.here hx rfl (pc0 := 48) (pc' := 52) rfl (hb hby own_d6_48) (by decide) (by decide) k) ?_
        refine own_ret X10 Bd.notSynchronized (some (.int (1 : Int32))) (fun h => by rw [Bd.returns] at h; cases h) (fun fs hr => retN X10 hx (t := .boolean) Bd.returns (by simp) (hb hby own_d6_52) hr) ?_ (by decide) (by decide)
        show (own_Q6 Z a b i1 i2 i3 k1 k2 k3 h0 n0) (some (.int (1 : Int32))) T10.heap _
        rw [e10]
        exact ⟨by rw [if_pos (by (try simp only [own_ln128, own_l0, own_l1, own_l2, own_l3, own_l29, own_l31, own_l127, own_l128, own_l256, own_l2147483647, Int32.lt_iff_toInt_lt, ← Int32.toInt_inj, Int64.lt_iff_toInt_lt, ← Int64.toInt_inj, and_true, true_and, and_false, false_and, or_true, true_or, or_false, false_or, not_true_eq_false, not_false_eq_true, ne_eq, true_implies, false_implies, implies_true] at c5 c8 c11 ⊢) <;> omega)], NF, rfl⟩
      · refine own_go (T' := T10) (g' := (mkF m 51 #[.val (.ref a), .val (.ref b), .val (.ref b)] [])) (fun _ k => XS.icmpYes X10.here hx rfl (pc0 := 44) (pc' := 51) rfl (hb hby own_d6_44) rfl (feq c11).2 (by decide) (by decide) k) ?_
        refine own_go (T' := T10) (g' := (mkF m 52 #[.val (.ref a), .val (.ref b), .val (.ref b)] [(.int (0 : Int32))])) (fun _ k => XS.iconst X10.here hx rfl (hb hby own_d6_51) k) ?_
        refine own_ret X10 Bd.notSynchronized (some (.int (0 : Int32))) (fun h => by rw [Bd.returns] at h; cases h) (fun fs hr => retN X10 hx (t := .boolean) Bd.returns (by simp) (hb hby own_d6_52) hr) ?_ (by decide) (by decide)
        show (own_Q6 Z a b i1 i2 i3 k1 k2 k3 h0 n0) (some (.int (0 : Int32))) T10.heap _
        rw [e10]
        exact ⟨by rw [if_neg (by (try simp only [own_ln128, own_l0, own_l1, own_l2, own_l3, own_l29, own_l31, own_l127, own_l128, own_l256, own_l2147483647, Int32.lt_iff_toInt_lt, ← Int32.toInt_inj, Int64.lt_iff_toInt_lt, ← Int64.toInt_inj, and_true, true_and, and_false, false_and, or_true, true_or, or_false, false_or, not_true_eq_false, not_false_eq_true, ne_eq, true_implies, false_implies, implies_true] at c5 c8 c11 ⊢) <;> omega)], NF, rfl⟩
    · refine own_go (T' := T7) (g' := (mkF m 51 #[.val (.ref a), .val (.ref b), .val (.ref b)] [])) (fun _ k => XS.icmpYes X7.here hx rfl (pc0 := 33) (pc' := 51) rfl (hb hby own_d6_33) rfl (feq c8).2 (by decide) (by decide) k) ?_
      refine own_go (T' := T7) (g' := (mkF m 52 #[.val (.ref a), .val (.ref b), .val (.ref b)] [(.int (0 : Int32))])) (fun _ k => XS.iconst X7.here hx rfl (hb hby own_d6_51) k) ?_
      refine own_ret X7 Bd.notSynchronized (some (.int (0 : Int32))) (fun h => by rw [Bd.returns] at h; cases h) (fun fs hr => retN X7 hx (t := .boolean) Bd.returns (by simp) (hb hby own_d6_52) hr) ?_ (by decide) (by decide)
      show (own_Q6 Z a b i1 i2 i3 k1 k2 k3 h0 n0) (some (.int (0 : Int32))) T7.heap _
      rw [e7]
      exact ⟨by rw [if_neg (by (try simp only [own_ln128, own_l0, own_l1, own_l2, own_l3, own_l29, own_l31, own_l127, own_l128, own_l256, own_l2147483647, Int32.lt_iff_toInt_lt, ← Int32.toInt_inj, Int64.lt_iff_toInt_lt, ← Int64.toInt_inj, and_true, true_and, and_false, false_and, or_true, true_or, or_false, false_or, not_true_eq_false, not_false_eq_true, ne_eq, true_implies, false_implies, implies_true] at c5 c8 ⊢) <;> omega)], NF, rfl⟩
  · refine own_go (T' := T4) (g' := (mkF m 51 #[.val (.ref a), .val (.ref b), .val (.ref b)] [])) (fun _ k => XS.icmpYes X4.here hx rfl (pc0 := 22) (pc' := 51) rfl (hb hby own_d6_22) rfl (feq c5).2 (by decide) (by decide) k) ?_
    refine own_go (T' := T4) (g' := (mkF m 52 #[.val (.ref a), .val (.ref b), .val (.ref b)] [(.int (0 : Int32))])) (fun _ k => XS.iconst X4.here hx rfl (hb hby own_d6_51) k) ?_
    refine own_ret X4 Bd.notSynchronized (some (.int (0 : Int32))) (fun h => by rw [Bd.returns] at h; cases h) (fun fs hr => retN X4 hx (t := .boolean) Bd.returns (by simp) (hb hby own_d6_52) hr) ?_ (by decide) (by decide)
    show (own_Q6 Z a b i1 i2 i3 k1 k2 k3 h0 n0) (some (.int (0 : Int32))) T4.heap _
    rw [e4]
    exact ⟨by rw [if_neg (by (try simp only [own_ln128, own_l0, own_l1, own_l2, own_l3, own_l29, own_l31, own_l127, own_l128, own_l256, own_l2147483647, Int32.lt_iff_toInt_lt, ← Int32.toInt_inj, Int64.lt_iff_toInt_lt, ← Int64.toInt_inj, and_true, true_and, and_false, false_and, or_true, true_or, or_false, false_or, not_true_eq_false, not_false_eq_true, ne_eq, true_implies, false_implies, implies_true] at c5 ⊢) <;> omega)], NF, rfl⟩
theorem own_d7_0 : decode prog_19_method_6_code 0 = .ok (.aload_n 1, 1) := by decide +kernel
theorem own_d7_1 : decode prog_19_method_6_code 1 = .ok (.instanceof 23, 3) := by decide +kernel
theorem own_d7_4 : decode prog_19_method_6_code 4 = .ok (.ifCond .ne 5, 3) := by decide +kernel
theorem own_d7_7 : decode prog_19_method_6_code 7 = .ok (.iconst 0, 1) := by decide +kernel
theorem own_d7_8 : decode prog_19_method_6_code 8 = .ok (.ireturn, 1) := by decide +kernel
theorem own_pn7 : plainName "com/example/godwit/godwit/StoreSettings" = true := by first | (simp [plainName, overriddenIn]; done) | decide +kernel
theorem own_ef7 (m : MethodId) (a : Addr) : entryFrame m #[(.ref a), .null] 3 = mkF m 0 #[.val (.ref a), .val .null, .unset] [] := by first | (simp [entryFrame, mkF, argsToLocals, Value.category]; done) | rfl
def own_Q7 (Z : State) (a : Addr) (h0 : Heap) (n0 : Nat) (v : Option Value) (h : Heap) (L : List Loc) : Prop := v = some (.int 0) ∧ Fr n0 L ∧ h = h0
set_option maxRecDepth 65536 in
set_option maxHeartbeats 40000000 in
theorem own_rm7 (l : Launch) (Z : State) (a0 : Array Value) (hw : ∀ d ∈ tables_1, d.before a0 Z = true) (ws : List Jvm.Cond) (a : Addr) (h0 : Heap) (n0 : Nat) (Zs : n0 ≤ h0.size)  :
    MetFree l (⟨"com/example/godwit/godwit/StoreSettings", "equals", "(Ljava/lang/Object;)Z"⟩ : MethodName) (head1 (Jvm.Cond.code (⟨"com/example/godwit/godwit/StoreSettings", "equals", "(Ljava/lang/Object;)Z"⟩ : MethodName) prog_19_method_6_code 3 (some .boolean) :: ws) ({ frames := 0, cells := 0, slots := 0, locals := 0 } : Room)) (fun aA_ U => aA_ = #[(.ref a), .null] ∧ Z.Warmed39 U.vm ∧ U.heap = h0) (fun _ _ _ _ _ => True) (fun _ U o U' => ∃ v L, o = .returned v ∧ own_Q7 Z a h0 n0 v U'.heap L ∧ FrameEnd U o U' L ({ frames := 0, cells := 0, slots := 0, locals := 0 } : Room).cells ({ frames := 0, cells := 0, slots := 0, locals := 0 } : Room).slots) := by
  refine MetFree.of_bodySF (plainFor_of_name own_pn7) hisR ?_
  intro p e s m args below meth c s₁ Bd hml0 hP hK
  obtain ⟨rfl, hZ, hh⟩ := hP
  have hx := Bd.exec
  have hby := Bd.bytes
  have hml : c.maxLocals = 3 := hml0
  have hown : s.vm.findClass "com/example/godwit/godwit/StoreSettings" = some m.cls := findClass_of_methodNamed Bd.named
  have hnm := (name_of_methodNamed Bd.named Bd.method).1
  have X0 : Stand p l e ({ frames := 0, cells := 0, slots := 0, locals := 0 } : Room) s m #[(.ref a), .null] below meth c s₁ [] 0 0 := Stand.of_body Bd
  have e0 : s₁.heap = h0 := by rw [← hh, Bd.state]; rfl
  have NF := Fr.nil n0
  rw [own_ef7 m a]
  show own_Dn p e below s (own_Q7 Z a h0 n0) 0 0 s₁ (mkF m 0 #[.val (.ref a), .val .null, .unset] [])
  refine own_go (T' := s₁) (g' := (mkF m 1 #[.val (.ref a), .val .null, .unset] [.null])) (fun _ k => XS.aloadN X0.here hx rfl (hb hby own_d7_0) rfl rfl k) ?_
  refine own_go (T' := s₁) (g' := (mkF m 4 #[.val (.ref a), .val .null, .unset] [(.int (0 : Int32))])) (fun _ k => X0.instanceofNull hx (g := (mkF m 1 #[.val (.ref a), .val .null, .unset] [.null])) rfl rfl (hb hby own_d7_1) _ k) ?_
  refine own_go (T' := s₁) (g' := (mkF m 7 #[.val (.ref a), .val .null, .unset] [])) (fun _ k => XS.ifNo X0.here hx rfl (hb hby own_d7_4) rfl (by decide) k) ?_
  refine own_go (T' := s₁) (g' := (mkF m 8 #[.val (.ref a), .val .null, .unset] [(.int (0 : Int32))])) (fun _ k => XS.iconst X0.here hx rfl (hb hby own_d7_7) k) ?_
  refine own_ret X0 Bd.notSynchronized (some (.int (0 : Int32))) (fun h => by rw [Bd.returns] at h; cases h) (fun fs hr => retN X0 hx (t := .boolean) Bd.returns (by simp) (hb hby own_d7_8) hr) ?_ (by decide) (by decide)
  show (own_Q7 Z a h0 n0) (some (.int (0 : Int32))) s₁.heap _
  rw [e0]
  exact ⟨rfl, NF, rfl⟩
theorem own_notInt (Z : State) (a0 : Array Value) (hw : ∀ d ∈ tables_1, d.before a0 Z = true) : ∃ c t, Z.vm.findClass "java/lang/Integer" = some c ∧ Z.vm.findClass "com/example/godwit/godwit/StoreSettings" = some t ∧ Z.vm.assignable c t = false :=
  own_nsno (hw _ (List.mem_of_getElem? (i := 48) rfl)) (hw _ (List.mem_of_getElem? (i := 2) rfl)) (NS.step (hw _ (List.mem_of_getElem? (i := 48) rfl)) (NS.step (hw _ (List.mem_of_getElem? (i := 49) rfl)) (own_nsroot (hw _ (List.mem_of_getElem? (i := 50) rfl)) (hw _ (List.mem_of_getElem? (i := 2) rfl)) (by decide)) (by decide)) (by decide)) (by decide)
theorem own_d8_0 : decode prog_19_method_6_code 0 = .ok (.aload_n 1, 1) := by decide +kernel
theorem own_d8_1 : decode prog_19_method_6_code 1 = .ok (.instanceof 23, 3) := by decide +kernel
theorem own_d8_4 : decode prog_19_method_6_code 4 = .ok (.ifCond .ne 5, 3) := by decide +kernel
theorem own_d8_7 : decode prog_19_method_6_code 7 = .ok (.iconst 0, 1) := by decide +kernel
theorem own_d8_8 : decode prog_19_method_6_code 8 = .ok (.ireturn, 1) := by decide +kernel
theorem own_pn8 : plainName "com/example/godwit/godwit/StoreSettings" = true := by first | (simp [plainName, overriddenIn]; done) | decide +kernel
theorem own_ef8 (m : MethodId) (a : Addr) (b : Addr) : entryFrame m #[(.ref a), (.ref b)] 3 = mkF m 0 #[.val (.ref a), .val (.ref b), .unset] [] := by first | (simp [entryFrame, mkF, argsToLocals, Value.category]; done) | rfl
def own_Q8 (Z : State) (a : Addr) (b : Addr) (h0 : Heap) (n0 : Nat) (v : Option Value) (h : Heap) (L : List Loc) : Prop := v = some (.int 0) ∧ Fr n0 L ∧ h = h0
set_option maxRecDepth 65536 in
set_option maxHeartbeats 40000000 in
theorem own_rm8 (l : Launch) (Z : State) (a0 : Array Value) (hw : ∀ d ∈ tables_1, d.before a0 Z = true) (ws : List Jvm.Cond) (a : Addr) (b : Addr) (h0 : Heap) (n0 : Nat) (Zs : n0 ≤ h0.size) (E_b : Exa Z h0 b "java/lang/Integer") :
    MetFree l (⟨"com/example/godwit/godwit/StoreSettings", "equals", "(Ljava/lang/Object;)Z"⟩ : MethodName) (head1 (Jvm.Cond.code (⟨"com/example/godwit/godwit/StoreSettings", "equals", "(Ljava/lang/Object;)Z"⟩ : MethodName) prog_19_method_6_code 3 (some .boolean) :: ws) ({ frames := 0, cells := 0, slots := 0, locals := 0 } : Room)) (fun aA_ U => aA_ = #[(.ref a), (.ref b)] ∧ Z.Warmed39 U.vm ∧ U.heap = h0) (fun _ _ _ _ _ => True) (fun _ U o U' => ∃ v L, o = .returned v ∧ own_Q8 Z a b h0 n0 v U'.heap L ∧ FrameEnd U o U' L ({ frames := 0, cells := 0, slots := 0, locals := 0 } : Room).cells ({ frames := 0, cells := 0, slots := 0, locals := 0 } : Room).slots) := by
  refine MetFree.of_bodySF (plainFor_of_name own_pn8) hisR ?_
  intro p e s m args below meth c s₁ Bd hml0 hP hK
  obtain ⟨rfl, hZ, hh⟩ := hP
  have hx := Bd.exec
  have hby := Bd.bytes
  have hml : c.maxLocals = 3 := hml0
  have hown : s.vm.findClass "com/example/godwit/godwit/StoreSettings" = some m.cls := findClass_of_methodNamed Bd.named
  have hnm := (name_of_methodNamed Bd.named Bd.method).1
  have X0 : Stand p l e ({ frames := 0, cells := 0, slots := 0, locals := 0 } : Room) s m #[(.ref a), (.ref b)] below meth c s₁ [] 0 0 := Stand.of_body Bd
  have e0 : s₁.heap = h0 := by rw [← hh, Bd.state]; rfl
  have NF := Fr.nil n0
  rw [own_ef8 m a b]
  show own_Dn p e below s (own_Q8 Z a b h0 n0) 0 0 s₁ (mkF m 0 #[.val (.ref a), .val (.ref b), .unset] [])
  refine own_go (T' := s₁) (g' := (mkF m 1 #[.val (.ref a), .val (.ref b), .unset] [(.ref b)])) (fun _ k => XS.aloadN X0.here hx rfl (hb hby own_d8_0) rfl rfl k) ?_
  obtain ⟨T1, X1, e1, st1⟩ := instNo X0 hx hZ hown (hw _ (List.mem_of_getElem? (i := 21) rfl)) e0 E_b (own_notInt Z a0 hw) (g := (mkF m 1 #[.val (.ref a), .val (.ref b), .unset] [(.ref b)])) rfl rfl (hb hby own_d8_1)
  refine own_go (T' := T1) (g' := (mkF m 4 #[.val (.ref a), .val (.ref b), .unset] [(.int (0 : Int32))])) (fun _ k => st1 _ k) ?_
  refine own_go (T' := T1) (g' := (mkF m 7 #[.val (.ref a), .val (.ref b), .unset] [])) (fun _ k => XS.ifNo X1.here hx rfl (hb hby own_d8_4) rfl (by decide) k) ?_
  refine own_go (T' := T1) (g' := (mkF m 8 #[.val (.ref a), .val (.ref b), .unset] [(.int (0 : Int32))])) (fun _ k => XS.iconst X1.here hx rfl (hb hby own_d8_7) k) ?_
  refine own_ret X1 Bd.notSynchronized (some (.int (0 : Int32))) (fun h => by rw [Bd.returns] at h; cases h) (fun fs hr => retN X1 hx (t := .boolean) Bd.returns (by simp) (hb hby own_d8_8) hr) ?_ (by decide) (by decide)
  show (own_Q8 Z a b h0 n0) (some (.int (0 : Int32))) T1.heap _
  rw [e1]
  exact ⟨rfl, NF, rfl⟩
theorem own_pn0 : plainName "com/example/godwit/godwit/StoreSettingsEqualsPinLaw" = true := by first | (simp [plainName, overriddenIn]; done) | decide +kernel
theorem own_pd0_0 : parseMethodDescriptor "(II)I" = some ⟨[.int, .int], some .int⟩ := by decide +kernel
theorem own_pd0_1 : parseMethodDescriptor "(III)V" = some ⟨[.int, .int, .int], none⟩ := by decide +kernel
theorem own_pd0_2 : parseMethodDescriptor "(Ljava/lang/Object;)Z" = some ⟨[(.object "java/lang/Object")], some .boolean⟩ := by decide +kernel
theorem own_pd0_3 : parseMethodDescriptor "(I)Ljava/lang/Integer;" = some ⟨[.int], some (.object "java/lang/Integer")⟩ := by decide +kernel
theorem own_ef0 (m : MethodId) (i0 : Int32) (i1 : Int32) (i2 : Int32) (i3 : Int32) (i4 : Int32) (i5 : Int32) : entryFrame m #[(.int i0), (.int i1), (.int i2), (.int i3), (.int i4), (.int i5)] maxLocals = mkF m 0 #[.val (.int i0), .val (.int i1), .val (.int i2), .val (.int i3), .val (.int i4), .val (.int i5), .unset, .unset, .unset, .unset, .unset, .unset, .unset, .unset, .unset, .unset] [] := by first | (simp [entryFrame, mkF, argsToLocals, Value.category, maxLocals]; done) | rfl
def own_Q0 (Z : State) (i0 : Int32) (i1 : Int32) (i2 : Int32) (i3 : Int32) (i4 : Int32) (i5 : Int32) (ca : Addr) (cc : Cell) (bval : Int32 → Value) (h0 : Heap) (n0 : Nat) (v : Option Value) (h : Heap) (L : List Loc) : Prop := v = some (.int 1) ∧ Fr n0 L
set_option maxRecDepth 65536 in
set_option maxHeartbeats 40000000 in
theorem own_rm0 (l : Launch) (Z : State) (a0 : Array Value) (hw : ∀ d ∈ tables_1, d.before a0 Z = true) (ws : List Jvm.Cond) (i0 : Int32) (i1 : Int32) (i2 : Int32) (i3 : Int32) (i4 : Int32) (i5 : Int32) (ca : Addr) (cc : Cell) (bval : Int32 → Value) (h0 : Heap) (n0 : Nat) (Zs : n0 ≤ h0.size) (OL : Old Z n0 h0) (S_high : Sta Z Z.heap "java/lang/Integer$IntegerCache" "high" "I" (.int (127 : Int32))) (S_cache : Sta Z Z.heap "java/lang/Integer$IntegerCache" "cache" "[Ljava/lang/Integer;" (.ref ca)) (BX : Bxs Z ca cc "java/lang/Integer" "I" (256 : Int32) bval) :
    MetFree l x (head1 (Jvm.Cond.code x code maxLocals ret :: ws) room_1) (fun aA_ U => aA_ = #[(.int i0), (.int i1), (.int i2), (.int i3), (.int i4), (.int i5)] ∧ Z.Warmed39 U.vm ∧ U.heap = h0) (fun _ _ _ _ _ => True) (fun _ U o U' => ∃ v L, o = .returned v ∧ own_Q0 Z i0 i1 i2 i3 i4 i5 ca cc bval h0 n0 v U'.heap L ∧ FrameEnd U o U' L room_1.cells room_1.slots) := by
  refine MetFree.of_bodySF (plainFor_of_name own_pn0) hisR ?_
  intro p e s m args below meth c s₁ Bd hml0 hP hK
  obtain ⟨rfl, hZ, hh⟩ := hP
  have hx := Bd.exec
  have hby := Bd.bytes
  have hml : c.maxLocals = 16 := hml0
  have hown : s.vm.findClass "com/example/godwit/godwit/StoreSettingsEqualsPinLaw" = some m.cls := findClass_of_methodNamed Bd.named
  have hnm := (name_of_methodNamed Bd.named Bd.method).1
  have X0 : Stand p l e room_1 s m #[(.int i0), (.int i1), (.int i2), (.int i3), (.int i4), (.int i5)] below meth c s₁ [] 0 0 := Stand.of_body Bd
  have e0 : s₁.heap = h0 := by rw [← hh, Bd.state]; rfl
  have NF := Fr.nil n0
  rw [own_ef0 m i0 i1 i2 i3 i4 i5]
  show own_Dn p e below s (own_Q0 Z i0 i1 i2 i3 i4 i5 ca cc bval h0 n0) room_1.cells room_1.slots s₁ (mkF m 0 #[.val (.int i0), .val (.int i1), .val (.int i2), .val (.int i3), .val (.int i4), .val (.int i5), .unset, .unset, .unset, .unset, .unset, .unset, .unset, .unset, .unset, .unset] [])
  have m0 := c_mask i0 (2147483647 : Int32) 31 (by decide) (by decide)
  have m1 := c_mask i1 (2147483647 : Int32) 31 (by decide) (by decide)
  have m2 := c_mask i2 (2147483647 : Int32) 31 (by decide) (by decide)
  have d1 := c_irem (i1 &&& (2147483647 : Int32)) (31 : Int32) 31 (by decide)
  have d2 := c_irem (i2 &&& (2147483647 : Int32)) (29 : Int32) 29 (by decide)
  have a1 := c_iadd ((i1 &&& (2147483647 : Int32)) % (31 : Int32)) (1 : Int32)
  have a2 := c_iadd ((i2 &&& (2147483647 : Int32)) % (29 : Int32)) (1 : Int32)
  have r1 := rng32 (((i1 &&& (2147483647 : Int32)) % (31 : Int32)) + (1 : Int32))
  have r2 := rng32 (((i2 &&& (2147483647 : Int32)) % (29 : Int32)) + (1 : Int32))
  have ue4 := c_iushr i4 (1 : Int32) 1 (by decide) (by decide)
  have ve4 := c_irem ((i4.toUInt32 >>> ((1 : Int32) &&& 31).toUInt32).toInt32) (31 : Int32) 31 (by decide)
  have we4 := c_iadd (((i4.toUInt32 >>> ((1 : Int32) &&& 31).toUInt32).toInt32) % (31 : Int32)) (1 : Int32)
  have xe4 := rng32 ((((i4.toUInt32 >>> ((1 : Int32) &&& 31).toUInt32).toInt32) % (31 : Int32)) + (1 : Int32))
  have ue5 := c_iushr i5 (3 : Int32) 3 (by decide) (by decide)
  have ve5 := c_irem ((i5.toUInt32 >>> ((3 : Int32) &&& 31).toUInt32).toInt32) (29 : Int32) 29 (by decide)
  have we5 := c_iadd (((i5.toUInt32 >>> ((3 : Int32) &&& 31).toUInt32).toInt32) % (29 : Int32)) (1 : Int32)
  have xe5 := rng32 ((((i5.toUInt32 >>> ((3 : Int32) &&& 31).toUInt32).toInt32) % (29 : Int32)) + (1 : Int32))
  simp only [own_ln128, own_l0, own_l1, own_l2, own_l3, own_l29, own_l31, own_l127, own_l128, own_l256, own_l2147483647, Nat.reducePow, Int.cast_ofNat_Int] at m0 m1 m2 d1 d2 a1 a2 ue4 ve4 we4 ue5 ve5 we5
  refine own_go (T' := s₁) (g' := (mkF m 1 #[.val (.int i0), .val (.int i1), .val (.int i2), .val (.int i3), .val (.int i4), .val (.int i5), .unset, .unset, .unset, .unset, .unset, .unset, .unset, .unset, .unset, .unset] [(.int i0)])) (fun _ k => XS.iloadN X0.here hx rfl (hb hby at_0) rfl k) ?_
  refine own_go (T' := s₁) (g' := (mkF m 3 #[.val (.int i0), .val (.int i1), .val (.int i2), .val (.int i3), .val (.int i4), .val (.int i5), .unset, .unset, .unset, .unset, .unset, .unset, .unset, .unset, .unset, .unset] [(.int (2147483647 : Int32)), (.int i0)])) (fun _ k => X0.ldcInt hx hown (mvT hZ (hw _ (List.mem_of_getElem? (i := 0) rfl))) (g := (mkF m 1 #[.val (.int i0), .val (.int i1), .val (.int i2), .val (.int i3), .val (.int i4), .val (.int i5), .unset, .unset, .unset, .unset, .unset, .unset, .unset, .unset, .unset, .unset] [(.int i0)])) rfl (hb hby at_1) _ k) ?_
  refine own_go (T' := s₁) (g' := (mkF m 4 #[.val (.int i0), .val (.int i1), .val (.int i2), .val (.int i3), .val (.int i4), .val (.int i5), .unset, .unset, .unset, .unset, .unset, .unset, .unset, .unset, .unset, .unset] [(.int (i0 &&& (2147483647 : Int32)))])) (fun _ k => XS.iand X0.here hx rfl (hb hby at_3) rfl k) ?_
  refine own_go (T' := s₁) (g' := (mkF m 6 #[.val (.int i0), .val (.int i1), .val (.int i2), .val (.int i3), .val (.int i4), .val (.int i5), .val (.int (i0 &&& (2147483647 : Int32))), .unset, .unset, .unset, .unset, .unset, .unset, .unset, .unset, .unset] [])) (fun _ k => XS.istore X0.here hx rfl (hb hby at_4) rfl (l' := #[.val (.int i0), .val (.int i1), .val (.int i2), .val (.int i3), .val (.int i4), .val (.int i5), .val (.int (i0 &&& (2147483647 : Int32))), .unset, .unset, .unset, .unset, .unset, .unset, .unset, .unset, .unset]) rfl k) ?_
  refine own_go (T' := s₁) (g' := (mkF m 8 #[.val (.int i0), .val (.int i1), .val (.int i2), .val (.int i3), .val (.int i4), .val (.int i5), .val (.int (i0 &&& (2147483647 : Int32))), .unset, .unset, .unset, .unset, .unset, .unset, .unset, .unset, .unset] [(.int (i0 &&& (2147483647 : Int32)))])) (fun _ k => XS.iload X0.here hx rfl (hb hby at_6) rfl k) ?_
  have J3 : ∀ (z1 : Int32), (1 ≤ z1.toInt ∧ z1.toInt ≤ 2147483647) → own_Dn p e below s (own_Q0 Z i0 i1 i2 i3 i4 i5 ca cc bval h0 n0) room_1.cells room_1.slots s₁ (mkF m 14 #[.val (.int i0), .val (.int i1), .val (.int i2), .val (.int i3), .val (.int i4), .val (.int i5), .val (.int z1), .unset, .unset, .unset, .unset, .unset, .unset, .unset, .unset, .unset] []) := by
    intro z1 hz2
    refine own_go (T' := s₁) (g' := (mkF m 15 #[.val (.int i0), .val (.int i1), .val (.int i2), .val (.int i3), .val (.int i4), .val (.int i5), .val (.int z1), .unset, .unset, .unset, .unset, .unset, .unset, .unset, .unset, .unset] [(.int i1)])) (fun _ k => XS.iloadN X0.here hx rfl (hb hby at_14) rfl k) ?_
    refine own_go (T' := s₁) (g' := (mkF m 17 #[.val (.int i0), .val (.int i1), .val (.int i2), .val (.int i3), .val (.int i4), .val (.int i5), .val (.int z1), .unset, .unset, .unset, .unset, .unset, .unset, .unset, .unset, .unset] [(.int (2147483647 : Int32)), (.int i1)])) (fun _ k => X0.ldcInt hx hown (mvT hZ (hw _ (List.mem_of_getElem? (i := 0) rfl))) (g := (mkF m 15 #[.val (.int i0), .val (.int i1), .val (.int i2), .val (.int i3), .val (.int i4), .val (.int i5), .val (.int z1), .unset, .unset, .unset, .unset, .unset, .unset, .unset, .unset, .unset] [(.int i1)])) rfl (hb hby at_15) _ k) ?_
    refine own_go (T' := s₁) (g' := (mkF m 18 #[.val (.int i0), .val (.int i1), .val (.int i2), .val (.int i3), .val (.int i4), .val (.int i5), .val (.int z1), .unset, .unset, .unset, .unset, .unset, .unset, .unset, .unset, .unset] [(.int (i1 &&& (2147483647 : Int32)))])) (fun _ k => XS.iand X0.here hx rfl (hb hby at_17) rfl k) ?_
    refine own_go (T' := s₁) (g' := (mkF m 20 #[.val (.int i0), .val (.int i1), .val (.int i2), .val (.int i3), .val (.int i4), .val (.int i5), .val (.int z1), .unset, .unset, .unset, .unset, .unset, .unset, .unset, .unset, .unset] [(.int (31 : Int32)), (.int (i1 &&& (2147483647 : Int32)))])) (fun _ k => XS.bipush X0.here hx rfl (hb hby at_18) k) ?_
    refine own_go (T' := s₁) (g' := (mkF m 21 #[.val (.int i0), .val (.int i1), .val (.int i2), .val (.int i3), .val (.int i4), .val (.int i5), .val (.int z1), .unset, .unset, .unset, .unset, .unset, .unset, .unset, .unset, .unset] [(.int ((i1 &&& (2147483647 : Int32)) % (31 : Int32)))])) (fun _ k => iremM X0 hx rfl (hb hby at_20) rfl (by decide) k) ?_
    refine own_go (T' := s₁) (g' := (mkF m 22 #[.val (.int i0), .val (.int i1), .val (.int i2), .val (.int i3), .val (.int i4), .val (.int i5), .val (.int z1), .unset, .unset, .unset, .unset, .unset, .unset, .unset, .unset, .unset] [(.int (1 : Int32)), (.int ((i1 &&& (2147483647 : Int32)) % (31 : Int32)))])) (fun _ k => XS.iconst X0.here hx rfl (hb hby at_21) k) ?_
    refine own_go (T' := s₁) (g' := (mkF m 23 #[.val (.int i0), .val (.int i1), .val (.int i2), .val (.int i3), .val (.int i4), .val (.int i5), .val (.int z1), .unset, .unset, .unset, .unset, .unset, .unset, .unset, .unset, .unset] [(.int (((i1 &&& (2147483647 : Int32)) % (31 : Int32)) + (1 : Int32)))])) (fun _ k => XS.iadd X0.here hx rfl (hb hby at_22) rfl k) ?_
    refine own_go (T' := s₁) (g' := (mkF m 25 #[.val (.int i0), .val (.int i1), .val (.int i2), .val (.int i3), .val (.int i4), .val (.int i5), .val (.int z1), .val (.int (((i1 &&& (2147483647 : Int32)) % (31 : Int32)) + (1 : Int32))), .unset, .unset, .unset, .unset, .unset, .unset, .unset, .unset] [])) (fun _ k => XS.istore X0.here hx rfl (hb hby at_23) rfl (l' := #[.val (.int i0), .val (.int i1), .val (.int i2), .val (.int i3), .val (.int i4), .val (.int i5), .val (.int z1), .val (.int (((i1 &&& (2147483647 : Int32)) % (31 : Int32)) + (1 : Int32))), .unset, .unset, .unset, .unset, .unset, .unset, .unset, .unset]) rfl k) ?_
    generalize e_b1 : (((i1 &&& (2147483647 : Int32)) % (31 : Int32)) + (1 : Int32)) = b1 at *
    refine own_go (T' := s₁) (g' := (mkF m 26 #[.val (.int i0), .val (.int i1), .val (.int i2), .val (.int i3), .val (.int i4), .val (.int i5), .val (.int z1), .val (.int b1), .unset, .unset, .unset, .unset, .unset, .unset, .unset, .unset] [(.int i2)])) (fun _ k => XS.iloadN X0.here hx rfl (hb hby at_25) rfl k) ?_
    refine own_go (T' := s₁) (g' := (mkF m 28 #[.val (.int i0), .val (.int i1), .val (.int i2), .val (.int i3), .val (.int i4), .val (.int i5), .val (.int z1), .val (.int b1), .unset, .unset, .unset, .unset, .unset, .unset, .unset, .unset] [(.int (2147483647 : Int32)), (.int i2)])) (fun _ k => X0.ldcInt hx hown (mvT hZ (hw _ (List.mem_of_getElem? (i := 0) rfl))) (g := (mkF m 26 #[.val (.int i0), .val (.int i1), .val (.int i2), .val (.int i3), .val (.int i4), .val (.int i5), .val (.int z1), .val (.int b1), .unset, .unset, .unset, .unset, .unset, .unset, .unset, .unset] [(.int i2)])) rfl (hb hby at_26) _ k) ?_
    refine own_go (T' := s₁) (g' := (mkF m 29 #[.val (.int i0), .val (.int i1), .val (.int i2), .val (.int i3), .val (.int i4), .val (.int i5), .val (.int z1), .val (.int b1), .unset, .unset, .unset, .unset, .unset, .unset, .unset, .unset] [(.int (i2 &&& (2147483647 : Int32)))])) (fun _ k => XS.iand X0.here hx rfl (hb hby at_28) rfl k) ?_
    refine own_go (T' := s₁) (g' := (mkF m 31 #[.val (.int i0), .val (.int i1), .val (.int i2), .val (.int i3), .val (.int i4), .val (.int i5), .val (.int z1), .val (.int b1), .unset, .unset, .unset, .unset, .unset, .unset, .unset, .unset] [(.int (29 : Int32)), (.int (i2 &&& (2147483647 : Int32)))])) (fun _ k => XS.bipush X0.here hx rfl (hb hby at_29) k) ?_
    refine own_go (T' := s₁) (g' := (mkF m 32 #[.val (.int i0), .val (.int i1), .val (.int i2), .val (.int i3), .val (.int i4), .val (.int i5), .val (.int z1), .val (.int b1), .unset, .unset, .unset, .unset, .unset, .unset, .unset, .unset] [(.int ((i2 &&& (2147483647 : Int32)) % (29 : Int32)))])) (fun _ k => iremM X0 hx rfl (hb hby at_31) rfl (by decide) k) ?_
    refine own_go (T' := s₁) (g' := (mkF m 33 #[.val (.int i0), .val (.int i1), .val (.int i2), .val (.int i3), .val (.int i4), .val (.int i5), .val (.int z1), .val (.int b1), .unset, .unset, .unset, .unset, .unset, .unset, .unset, .unset] [(.int (1 : Int32)), (.int ((i2 &&& (2147483647 : Int32)) % (29 : Int32)))])) (fun _ k => XS.iconst X0.here hx rfl (hb hby at_32) k) ?_
    refine own_go (T' := s₁) (g' := (mkF m 34 #[.val (.int i0), .val (.int i1), .val (.int i2), .val (.int i3), .val (.int i4), .val (.int i5), .val (.int z1), .val (.int b1), .unset, .unset, .unset, .unset, .unset, .unset, .unset, .unset] [(.int (((i2 &&& (2147483647 : Int32)) % (29 : Int32)) + (1 : Int32)))])) (fun _ k => XS.iadd X0.here hx rfl (hb hby at_33) rfl k) ?_
    refine own_go (T' := s₁) (g' := (mkF m 36 #[.val (.int i0), .val (.int i1), .val (.int i2), .val (.int i3), .val (.int i4), .val (.int i5), .val (.int z1), .val (.int b1), .val (.int (((i2 &&& (2147483647 : Int32)) % (29 : Int32)) + (1 : Int32))), .unset, .unset, .unset, .unset, .unset, .unset, .unset] [])) (fun _ k => XS.istore X0.here hx rfl (hb hby at_34) rfl (l' := #[.val (.int i0), .val (.int i1), .val (.int i2), .val (.int i3), .val (.int i4), .val (.int i5), .val (.int z1), .val (.int b1), .val (.int (((i2 &&& (2147483647 : Int32)) % (29 : Int32)) + (1 : Int32))), .unset, .unset, .unset, .unset, .unset, .unset, .unset]) rfl k) ?_
    generalize e_x1 : (((i2 &&& (2147483647 : Int32)) % (29 : Int32)) + (1 : Int32)) = x1 at *
    refine own_go (T' := s₁) (g' := (mkF m 37 #[.val (.int i0), .val (.int i1), .val (.int i2), .val (.int i3), .val (.int i4), .val (.int i5), .val (.int z1), .val (.int b1), .val (.int x1), .unset, .unset, .unset, .unset, .unset, .unset, .unset] [(.int i3)])) (fun _ k => XS.iloadN X0.here hx rfl (hb hby at_36) rfl k) ?_
    refine own_go (T' := s₁) (g' := (mkF m 38 #[.val (.int i0), .val (.int i1), .val (.int i2), .val (.int i3), .val (.int i4), .val (.int i5), .val (.int z1), .val (.int b1), .val (.int x1), .unset, .unset, .unset, .unset, .unset, .unset, .unset] [(.int (1 : Int32)), (.int i3)])) (fun _ k => XS.iconst X0.here hx rfl (hb hby at_37) k) ?_
    refine own_go (T' := s₁) (g' := (mkF m 39 #[.val (.int i0), .val (.int i1), .val (.int i2), .val (.int i3), .val (.int i4), .val (.int i5), .val (.int z1), .val (.int b1), .val (.int x1), .unset, .unset, .unset, .unset, .unset, .unset, .unset] [(.int (i3 &&& (1 : Int32)))])) (fun _ k => XS.iand X0.here hx rfl (hb hby at_38) rfl k) ?_
    by_cases c4 : (i3 &&& (1 : Int32)) = (0 : Int32)
    · refine own_go (T' := s₁) (g' := (mkF m 47 #[.val (.int i0), .val (.int i1), .val (.int i2), .val (.int i3), .val (.int i4), .val (.int i5), .val (.int z1), .val (.int b1), .val (.int x1), .unset, .unset, .unset, .unset, .unset, .unset, .unset] [])) (fun _ k => XS.ifYes X0.here hx rfl (pc0 := 39) (pc' := 47) rfl (hb hby at_39) rfl ((if0 _ _).trans (teq c4).1) (by decide) (by decide) k) ?_
      refine own_go (T' := s₁) (g' := (mkF m 48 #[.val (.int i0), .val (.int i1), .val (.int i2), .val (.int i3), .val (.int i4), .val (.int i5), .val (.int z1), .val (.int b1), .val (.int x1), .unset, .unset, .unset, .unset, .unset, .unset, .unset] [(.int (1 : Int32))])) (fun _ k => XS.iconst X0.here hx rfl (hb hby at_47) k) ?_
      refine own_go (T' := s₁) (g' := (mkF m 49 #[.val (.int i0), .val (.int i1), .val (.int i2), .val (.int i3), .val (.int i4), .val (.int i5), .val (.int z1), .val (.int b1), .val (.int x1), .unset, .unset, .unset, .unset, .unset, .unset, .unset] [(.int i3), (.int (1 : Int32))])) (fun _ k => XS.iloadN X0.here hx rfl (hb hby at_48) rfl k) ?_
      refine own_go (T' := s₁) (g' := (mkF m 50 #[.val (.int i0), .val (.int i1), .val (.int i2), .val (.int i3), .val (.int i4), .val (.int i5), .val (.int z1), .val (.int b1), .val (.int x1), .unset, .unset, .unset, .unset, .unset, .unset, .unset] [(.int (1 : Int32)), (.int i3), (.int (1 : Int32))])) (fun _ k => XS.iconst X0.here hx rfl (hb hby at_49) k) ?_
      refine own_go (T' := s₁) (g' := (mkF m 51 #[.val (.int i0), .val (.int i1), .val (.int i2), .val (.int i3), .val (.int i4), .val (.int i5), .val (.int z1), .val (.int b1), .val (.int x1), .unset, .unset, .unset, .unset, .unset, .unset, .unset] [(.int ((i3.toUInt32 >>> ((1 : Int32) &&& 31).toUInt32).toInt32)), (.int (1 : Int32))])) (fun _ k => XS.iushr X0.here hx rfl (hb hby at_50) rfl k) ?_
      obtain ⟨_, _, ⟨T5, L5, k5, n5⟩, -, X5, ⟨Lc5, hQ5, l5, y5, z5⟩, st5⟩ := Jvm.LawKit.callS X0 hx (y := (⟨"java/lang/Math", "max", "(II)I"⟩ : MethodName)) hown (mvT hZ (hw _ (List.mem_of_getElem? (i := 23) rfl))) (mvT hZ (hw _ (List.mem_of_getElem? (i := 24) rfl))) (mvT hZ (hw _ (List.mem_of_getElem? (i := 25) rfl))) (mvT hZ (hw _ (List.mem_of_getElem? (i := 26) rfl))) (by decide) (backOf (W := 0) (own_rm1 l Z a0 hw [] (1 : Int32) ((i3.toUInt32 >>> ((1 : Int32) &&& 31).toUInt32).toInt32) h0 n0 Zs) hZ (hw _ (List.mem_of_getElem? (i := 26) rfl)) (hw _ (List.mem_of_getElem? (i := 25) rfl)) (by decide) (by decide)) (g := (mkF m 51 #[.val (.int i0), .val (.int i1), .val (.int i2), .val (.int i3), .val (.int i4), .val (.int i5), .val (.int z1), .val (.int b1), .val (.int x1), .unset, .unset, .unset, .unset, .unset, .unset, .unset] [(.int ((i3.toUInt32 >>> ((1 : Int32) &&& 31).toUInt32).toInt32)), (.int (1 : Int32))])) rfl (by rw [hml]; rfl) (argsL := [(.int (1 : Int32)), (.int ((i3.toUInt32 >>> ((1 : Int32) &&& 31).toUInt32).toInt32))]) (rest := []) (lenOf own_pd0_0 rfl) rfl (by show 2 * 0 + _ ≤ _; exact Nat.le_of_eq rfl) (hb hby at_51) (fun _ _ => ⟨rfl, e0, (by decide : 0 + 0 ≤ _), (by decide : 0 + 0 ≤ _)⟩)
      dsimp only [Pt.U, Pt.locs, Pt.cells, Pt.slots] at X5 l5 y5 z5 st5 hQ5
      subst l5 y5 z5
      obtain ⟨zz5, rfl, NQ5, eq5, hz5⟩ := hQ5
      have NF := Fr.app NF NQ5
      try simp only [own_ln128, own_l0, own_l1, own_l2, own_l3, own_l29, own_l31, own_l127, own_l128, own_l256, own_l2147483647] at hz5
      refine own_go (T' := T5) (g' := (mkF m 54 #[.val (.int i0), .val (.int i1), .val (.int i2), .val (.int i3), .val (.int i4), .val (.int i5), .val (.int z1), .val (.int b1), .val (.int x1), .unset, .unset, .unset, .unset, .unset, .unset, .unset] [(.int zz5)])) (fun _ k => st5 _ k) ?_
      refine own_go (T' := T5) (g' := (mkF m 56 #[.val (.int i0), .val (.int i1), .val (.int i2), .val (.int i3), .val (.int i4), .val (.int i5), .val (.int z1), .val (.int b1), .val (.int x1), .val (.int zz5), .unset, .unset, .unset, .unset, .unset, .unset] [])) (fun _ k => XS.istore X5.here hx rfl (hb hby at_54) rfl (l' := #[.val (.int i0), .val (.int i1), .val (.int i2), .val (.int i3), .val (.int i4), .val (.int i5), .val (.int z1), .val (.int b1), .val (.int x1), .val (.int zz5), .unset, .unset, .unset, .unset, .unset, .unset]) rfl k) ?_
      refine own_go (T' := T5) (g' := (mkF m 58 #[.val (.int i0), .val (.int i1), .val (.int i2), .val (.int i3), .val (.int i4), .val (.int i5), .val (.int z1), .val (.int b1), .val (.int x1), .val (.int zz5), .unset, .unset, .unset, .unset, .unset, .unset] [(.int i4)])) (fun _ k => XS.iload X5.here hx rfl (hb hby at_56) rfl k) ?_
      refine own_go (T' := T5) (g' := (mkF m 59 #[.val (.int i0), .val (.int i1), .val (.int i2), .val (.int i3), .val (.int i4), .val (.int i5), .val (.int z1), .val (.int b1), .val (.int x1), .val (.int zz5), .unset, .unset, .unset, .unset, .unset, .unset] [(.int (1 : Int32)), (.int i4)])) (fun _ k => XS.iconst X5.here hx rfl (hb hby at_58) k) ?_
      refine own_go (T' := T5) (g' := (mkF m 60 #[.val (.int i0), .val (.int i1), .val (.int i2), .val (.int i3), .val (.int i4), .val (.int i5), .val (.int z1), .val (.int b1), .val (.int x1), .val (.int zz5), .unset, .unset, .unset, .unset, .unset, .unset] [(.int (i4 &&& (1 : Int32)))])) (fun _ k => XS.iand X5.here hx rfl (hb hby at_59) rfl k) ?_
      have J8 : ∀ (z6 : Int32), (1 ≤ z6.toInt ∧ z6.toInt ≤ 31) → own_Dn p e below s (own_Q0 Z i0 i1 i2 i3 i4 i5 ca cc bval h0 n0) room_1.cells room_1.slots T5 (mkF m 77 #[.val (.int i0), .val (.int i1), .val (.int i2), .val (.int i3), .val (.int i4), .val (.int i5), .val (.int z1), .val (.int b1), .val (.int x1), .val (.int zz5), .unset, .unset, .unset, .unset, .unset, .unset] [(.int z6)]) := by
        intro z6 hz7
        refine own_go (T' := T5) (g' := (mkF m 79 #[.val (.int i0), .val (.int i1), .val (.int i2), .val (.int i3), .val (.int i4), .val (.int i5), .val (.int z1), .val (.int b1), .val (.int x1), .val (.int zz5), .val (.int z6), .unset, .unset, .unset, .unset, .unset] [])) (fun _ k => XS.istore X5.here hx rfl (hb hby at_77) rfl (l' := #[.val (.int i0), .val (.int i1), .val (.int i2), .val (.int i3), .val (.int i4), .val (.int i5), .val (.int z1), .val (.int b1), .val (.int x1), .val (.int zz5), .val (.int z6), .unset, .unset, .unset, .unset, .unset]) rfl k) ?_
        refine own_go (T' := T5) (g' := (mkF m 81 #[.val (.int i0), .val (.int i1), .val (.int i2), .val (.int i3), .val (.int i4), .val (.int i5), .val (.int z1), .val (.int b1), .val (.int x1), .val (.int zz5), .val (.int z6), .unset, .unset, .unset, .unset, .unset] [(.int i5)])) (fun _ k => XS.iload X5.here hx rfl (hb hby at_79) rfl k) ?_
        refine own_go (T' := T5) (g' := (mkF m 82 #[.val (.int i0), .val (.int i1), .val (.int i2), .val (.int i3), .val (.int i4), .val (.int i5), .val (.int z1), .val (.int b1), .val (.int x1), .val (.int zz5), .val (.int z6), .unset, .unset, .unset, .unset, .unset] [(.int (1 : Int32)), (.int i5)])) (fun _ k => XS.iconst X5.here hx rfl (hb hby at_81) k) ?_
        refine own_go (T' := T5) (g' := (mkF m 83 #[.val (.int i0), .val (.int i1), .val (.int i2), .val (.int i3), .val (.int i4), .val (.int i5), .val (.int z1), .val (.int b1), .val (.int x1), .val (.int zz5), .val (.int z6), .unset, .unset, .unset, .unset, .unset] [(.int ((i5.toUInt32 >>> ((1 : Int32) &&& 31).toUInt32).toInt32))])) (fun _ k => XS.iushr X5.here hx rfl (hb hby at_82) rfl k) ?_
        refine own_go (T' := T5) (g' := (mkF m 84 #[.val (.int i0), .val (.int i1), .val (.int i2), .val (.int i3), .val (.int i4), .val (.int i5), .val (.int z1), .val (.int b1), .val (.int x1), .val (.int zz5), .val (.int z6), .unset, .unset, .unset, .unset, .unset] [(.int (3 : Int32)), (.int ((i5.toUInt32 >>> ((1 : Int32) &&& 31).toUInt32).toInt32))])) (fun _ k => XS.iconst X5.here hx rfl (hb hby at_83) k) ?_
        refine own_go (T' := T5) (g' := (mkF m 85 #[.val (.int i0), .val (.int i1), .val (.int i2), .val (.int i3), .val (.int i4), .val (.int i5), .val (.int z1), .val (.int b1), .val (.int x1), .val (.int zz5), .val (.int z6), .unset, .unset, .unset, .unset, .unset] [(.int (((i5.toUInt32 >>> ((1 : Int32) &&& 31).toUInt32).toInt32) &&& (3 : Int32)))])) (fun _ k => XS.iand X5.here hx rfl (hb hby at_84) rfl k) ?_
        refine own_go (T' := T5) (g' := (mkF m 87 #[.val (.int i0), .val (.int i1), .val (.int i2), .val (.int i3), .val (.int i4), .val (.int i5), .val (.int z1), .val (.int b1), .val (.int x1), .val (.int zz5), .val (.int z6), .val (.int (((i5.toUInt32 >>> ((1 : Int32) &&& 31).toUInt32).toInt32) &&& (3 : Int32))), .unset, .unset, .unset, .unset] [])) (fun _ k => XS.istore X5.here hx rfl (hb hby at_85) rfl (l' := #[.val (.int i0), .val (.int i1), .val (.int i2), .val (.int i3), .val (.int i4), .val (.int i5), .val (.int z1), .val (.int b1), .val (.int x1), .val (.int zz5), .val (.int z6), .val (.int (((i5.toUInt32 >>> ((1 : Int32) &&& 31).toUInt32).toInt32) &&& (3 : Int32))), .unset, .unset, .unset, .unset]) rfl k) ?_
        generalize e_kd : (((i5.toUInt32 >>> ((1 : Int32) &&& 31).toUInt32).toInt32) &&& (3 : Int32)) = kd at *
        refine own_go (T' := T5) (g' := (mkF m 89 #[.val (.int i0), .val (.int i1), .val (.int i2), .val (.int i3), .val (.int i4), .val (.int i5), .val (.int z1), .val (.int b1), .val (.int x1), .val (.int zz5), .val (.int z6), .val (.int kd), .unset, .unset, .unset, .unset] [(.int i5)])) (fun _ k => XS.iload X5.here hx rfl (hb hby at_87) rfl k) ?_
        refine own_go (T' := T5) (g' := (mkF m 90 #[.val (.int i0), .val (.int i1), .val (.int i2), .val (.int i3), .val (.int i4), .val (.int i5), .val (.int z1), .val (.int b1), .val (.int x1), .val (.int zz5), .val (.int z6), .val (.int kd), .unset, .unset, .unset, .unset] [(.int (1 : Int32)), (.int i5)])) (fun _ k => XS.iconst X5.here hx rfl (hb hby at_89) k) ?_
        refine own_go (T' := T5) (g' := (mkF m 91 #[.val (.int i0), .val (.int i1), .val (.int i2), .val (.int i3), .val (.int i4), .val (.int i5), .val (.int z1), .val (.int b1), .val (.int x1), .val (.int zz5), .val (.int z6), .val (.int kd), .unset, .unset, .unset, .unset] [(.int (i5 &&& (1 : Int32)))])) (fun _ k => XS.iand X5.here hx rfl (hb hby at_90) rfl k) ?_
        have J11 : ∀ (z9 : Int32), (1 ≤ z9.toInt ∧ z9.toInt ≤ 29) → own_Dn p e below s (own_Q0 Z i0 i1 i2 i3 i4 i5 ca cc bval h0 n0) room_1.cells room_1.slots T5 (mkF m 108 #[.val (.int i0), .val (.int i1), .val (.int i2), .val (.int i3), .val (.int i4), .val (.int i5), .val (.int z1), .val (.int b1), .val (.int x1), .val (.int zz5), .val (.int z6), .val (.int kd), .unset, .unset, .unset, .unset] [(.int z9)]) := by
          intro z9 hz10
          refine own_go (T' := T5) (g' := (mkF m 110 #[.val (.int i0), .val (.int i1), .val (.int i2), .val (.int i3), .val (.int i4), .val (.int i5), .val (.int z1), .val (.int b1), .val (.int x1), .val (.int zz5), .val (.int z6), .val (.int kd), .val (.int z9), .unset, .unset, .unset] [])) (fun _ k => XS.istore X5.here hx rfl (hb hby at_108) rfl (l' := #[.val (.int i0), .val (.int i1), .val (.int i2), .val (.int i3), .val (.int i4), .val (.int i5), .val (.int z1), .val (.int b1), .val (.int x1), .val (.int zz5), .val (.int z6), .val (.int kd), .val (.int z9), .unset, .unset, .unset]) rfl k) ?_
          obtain ⟨T12, h12, X12, e12, E12, A12, D12, -, st12⟩ := newO X5 hx hZ hown (hw _ (List.mem_of_getElem? (i := 1) rfl)) (hw _ (List.mem_of_getElem? (i := 2) rfl)) (hw _ (List.mem_of_getElem? (i := 3) rfl)) eq5 (g := (mkF m 110 #[.val (.int i0), .val (.int i1), .val (.int i2), .val (.int i3), .val (.int i4), .val (.int i5), .val (.int z1), .val (.int b1), .val (.int x1), .val (.int zz5), .val (.int z6), .val (.int kd), .val (.int z9), .unset, .unset, .unset] [])) rfl (hb hby at_110) (by decide) (by decide)
          obtain ⟨b12, g12⟩ : ∃ z, z = h0.size := ⟨_, rfl⟩
          rw [← g12] at A12 D12 st12
          have g_b12 : n0 ≤ b12 := Nat.le_trans Zs (Nat.le_of_eq g12.symm)
          have OL := OL.ext E12
          have Zs := Nat.le_trans Zs E12.1
          have E_b12 := A12
          have F_b12_timeBinSeconds : Fld Z h12 b12 "com/example/godwit/godwit/StoreSettings" "timeBinSeconds" "I" (.int (0 : Int32)) := D12 (Or.inr (hw _ (List.mem_of_getElem? (i := 11) rfl))) (ty := .int) (by decide)
          have F_b12_hilbertBits : Fld Z h12 b12 "com/example/godwit/godwit/StoreSettings" "hilbertBits" "I" (.int (0 : Int32)) := D12 (Or.inr (hw _ (List.mem_of_getElem? (i := 13) rfl))) (ty := .int) (by decide)
          have F_b12_xzResolution : Fld Z h12 b12 "com/example/godwit/godwit/StoreSettings" "xzResolution" "I" (.int (0 : Int32)) := D12 (Or.inr (hw _ (List.mem_of_getElem? (i := 15) rfl))) (ty := .int) (by decide)
          refine own_go (T' := T12) (g' := (mkF m 113 #[.val (.int i0), .val (.int i1), .val (.int i2), .val (.int i3), .val (.int i4), .val (.int i5), .val (.int z1), .val (.int b1), .val (.int x1), .val (.int zz5), .val (.int z6), .val (.int kd), .val (.int z9), .unset, .unset, .unset] [(.ref b12)])) (fun _ k => st12 _ k) ?_
          refine own_go (T' := T12) (g' := (mkF m 114 #[.val (.int i0), .val (.int i1), .val (.int i2), .val (.int i3), .val (.int i4), .val (.int i5), .val (.int z1), .val (.int b1), .val (.int x1), .val (.int zz5), .val (.int z6), .val (.int kd), .val (.int z9), .unset, .unset, .unset] [(.ref b12), (.ref b12)])) (fun _ k => XS.dup X12.here hx rfl (hb hby at_113) rfl rfl k) ?_
          refine own_go (T' := T12) (g' := (mkF m 116 #[.val (.int i0), .val (.int i1), .val (.int i2), .val (.int i3), .val (.int i4), .val (.int i5), .val (.int z1), .val (.int b1), .val (.int x1), .val (.int zz5), .val (.int z6), .val (.int kd), .val (.int z9), .unset, .unset, .unset] [(.int z1), (.ref b12), (.ref b12)])) (fun _ k => XS.iload X12.here hx rfl (hb hby at_114) rfl k) ?_
          refine own_go (T' := T12) (g' := (mkF m 118 #[.val (.int i0), .val (.int i1), .val (.int i2), .val (.int i3), .val (.int i4), .val (.int i5), .val (.int z1), .val (.int b1), .val (.int x1), .val (.int zz5), .val (.int z6), .val (.int kd), .val (.int z9), .unset, .unset, .unset] [(.int b1), (.int z1), (.ref b12), (.ref b12)])) (fun _ k => XS.iload X12.here hx rfl (hb hby at_116) rfl k) ?_
          refine own_go (T' := T12) (g' := (mkF m 120 #[.val (.int i0), .val (.int i1), .val (.int i2), .val (.int i3), .val (.int i4), .val (.int i5), .val (.int z1), .val (.int b1), .val (.int x1), .val (.int zz5), .val (.int z6), .val (.int kd), .val (.int z9), .unset, .unset, .unset] [(.int x1), (.int b1), (.int z1), (.ref b12), (.ref b12)])) (fun _ k => XS.iload X12.here hx rfl (hb hby at_118) rfl k) ?_
          obtain ⟨_, _, ⟨T13, L13, k13, n13⟩, -, X13, ⟨Lc13, hQ13, l13, y13, z13⟩, st13⟩ := X12.specialBack hx (y := (⟨"com/example/godwit/godwit/StoreSettings", "<init>", "(III)V"⟩ : MethodName)) rfl hown (mvT hZ (hw _ (List.mem_of_getElem? (i := 4) rfl))) (mvT hZ (hw _ (List.mem_of_getElem? (i := 5) rfl))) (mvT hZ (hw _ (List.mem_of_getElem? (i := 6) rfl))) (by decide) (backOf (W := 1) (own_rm2 l Z a0 hw [] b12 z1 b1 x1 h12 n0 Zs F_b12_timeBinSeconds F_b12_hilbertBits F_b12_xzResolution E_b12 g_b12 (by omega)) hZ (hw _ (List.mem_of_getElem? (i := 6) rfl)) (hw _ (List.mem_of_getElem? (i := 3) rfl)) (by decide) (by decide)) (g := (mkF m 120 #[.val (.int i0), .val (.int i1), .val (.int i2), .val (.int i3), .val (.int i4), .val (.int i5), .val (.int z1), .val (.int b1), .val (.int x1), .val (.int zz5), .val (.int z6), .val (.int kd), .val (.int z9), .unset, .unset, .unset] [(.int x1), (.int b1), (.int z1), (.ref b12), (.ref b12)])) rfl (by rw [hml]; rfl) (Steps.refl _) (a := b12) (argsL := [(.int z1), (.int b1), (.int x1)]) (rest := [(.ref b12)]) (lenOf own_pd0_1 rfl) rfl (by show 2 * 0 + _ ≤ _; exact Nat.le_of_eq rfl) (hb hby at_120) (fun _ _ => ⟨rfl, e12, (by decide : 1 + 0 ≤ _), (by decide : 3 + 0 ≤ _)⟩)
          dsimp only [Pt.U, Pt.locs, Pt.cells, Pt.slots] at X13 l13 y13 z13 st13 hQ13
          subst l13 y13 z13
          obtain ⟨rfl, NQ13, K13, E_b12, F_b12_timeBinSeconds, F_b12_hilbertBits, F_b12_xzResolution⟩ := hQ13
          have NF := Fr.app NF NQ13
          have OL := OL.keep K13 (allS g_b12 all0)
          have Zs := Nat.le_trans Zs K13.1
          refine own_go (T' := T13) (g' := (mkF m 123 #[.val (.int i0), .val (.int i1), .val (.int i2), .val (.int i3), .val (.int i4), .val (.int i5), .val (.int z1), .val (.int b1), .val (.int x1), .val (.int zz5), .val (.int z6), .val (.int kd), .val (.int z9), .unset, .unset, .unset] [(.ref b12)])) (fun _ k => st13.trans k) ?_
          refine own_go (T' := T13) (g' := (mkF m 125 #[.val (.int i0), .val (.int i1), .val (.int i2), .val (.int i3), .val (.int i4), .val (.int i5), .val (.int z1), .val (.int b1), .val (.int x1), .val (.int zz5), .val (.int z6), .val (.int kd), .val (.int z9), .val (.ref b12), .unset, .unset] [])) (fun _ k => XS.astore X13.here hx rfl (hb hby at_123) rfl rfl (l' := #[.val (.int i0), .val (.int i1), .val (.int i2), .val (.int i3), .val (.int i4), .val (.int i5), .val (.int z1), .val (.int b1), .val (.int x1), .val (.int zz5), .val (.int z6), .val (.int kd), .val (.int z9), .val (.ref b12), .unset, .unset]) rfl k) ?_
          obtain ⟨T14, h14, X14, e14, E14, A14, D14, -, st14⟩ := newO X13 hx hZ hown (hw _ (List.mem_of_getElem? (i := 1) rfl)) (hw _ (List.mem_of_getElem? (i := 2) rfl)) (hw _ (List.mem_of_getElem? (i := 3) rfl)) rfl (g := (mkF m 125 #[.val (.int i0), .val (.int i1), .val (.int i2), .val (.int i3), .val (.int i4), .val (.int i5), .val (.int z1), .val (.int b1), .val (.int x1), .val (.int zz5), .val (.int z6), .val (.int kd), .val (.int z9), .val (.ref b12), .unset, .unset] [])) rfl (hb hby at_125) (by decide) (by decide)
          obtain ⟨b14, g14⟩ : ∃ z, z = T13.heap.size := ⟨_, rfl⟩
          rw [← g14] at A14 D14 st14
          have ne_b12_b14 : b12 ≠ b14 := Nat.ne_of_lt (Nat.lt_of_lt_of_le E_b12.lt (Nat.le_of_eq g14.symm))
          have g_b14 : n0 ≤ b14 := Nat.le_trans Zs (Nat.le_of_eq g14.symm)
          have OL := OL.ext E14
          have E_b12 := E_b12.ext E14
          have F_b12_timeBinSeconds := F_b12_timeBinSeconds.ext E14
          have F_b12_hilbertBits := F_b12_hilbertBits.ext E14
          have F_b12_xzResolution := F_b12_xzResolution.ext E14
          have Zs := Nat.le_trans Zs E14.1
          have E_b14 := A14
          have F_b14_timeBinSeconds : Fld Z h14 b14 "com/example/godwit/godwit/StoreSettings" "timeBinSeconds" "I" (.int (0 : Int32)) := D14 (Or.inr (hw _ (List.mem_of_getElem? (i := 11) rfl))) (ty := .int) (by decide)
          have F_b14_hilbertBits : Fld Z h14 b14 "com/example/godwit/godwit/StoreSettings" "hilbertBits" "I" (.int (0 : Int32)) := D14 (Or.inr (hw _ (List.mem_of_getElem? (i := 13) rfl))) (ty := .int) (by decide)
          have F_b14_xzResolution : Fld Z h14 b14 "com/example/godwit/godwit/StoreSettings" "xzResolution" "I" (.int (0 : Int32)) := D14 (Or.inr (hw _ (List.mem_of_getElem? (i := 15) rfl))) (ty := .int) (by decide)
          refine own_go (T' := T14) (g' := (mkF m 128 #[.val (.int i0), .val (.int i1), .val (.int i2), .val (.int i3), .val (.int i4), .val (.int i5), .val (.int z1), .val (.int b1), .val (.int x1), .val (.int zz5), .val (.int z6), .val (.int kd), .val (.int z9), .val (.ref b12), .unset, .unset] [(.ref b14)])) (fun _ k => st14 _ k) ?_
          refine own_go (T' := T14) (g' := (mkF m 129 #[.val (.int i0), .val (.int i1), .val (.int i2), .val (.int i3), .val (.int i4), .val (.int i5), .val (.int z1), .val (.int b1), .val (.int x1), .val (.int zz5), .val (.int z6), .val (.int kd), .val (.int z9), .val (.ref b12), .unset, .unset] [(.ref b14), (.ref b14)])) (fun _ k => XS.dup X14.here hx rfl (hb hby at_128) rfl rfl k) ?_
          refine own_go (T' := T14) (g' := (mkF m 131 #[.val (.int i0), .val (.int i1), .val (.int i2), .val (.int i3), .val (.int i4), .val (.int i5), .val (.int z1), .val (.int b1), .val (.int x1), .val (.int zz5), .val (.int z6), .val (.int kd), .val (.int z9), .val (.ref b12), .unset, .unset] [(.int zz5), (.ref b14), (.ref b14)])) (fun _ k => XS.iload X14.here hx rfl (hb hby at_129) rfl k) ?_
          refine own_go (T' := T14) (g' := (mkF m 133 #[.val (.int i0), .val (.int i1), .val (.int i2), .val (.int i3), .val (.int i4), .val (.int i5), .val (.int z1), .val (.int b1), .val (.int x1), .val (.int zz5), .val (.int z6), .val (.int kd), .val (.int z9), .val (.ref b12), .unset, .unset] [(.int z6), (.int zz5), (.ref b14), (.ref b14)])) (fun _ k => XS.iload X14.here hx rfl (hb hby at_131) rfl k) ?_
          refine own_go (T' := T14) (g' := (mkF m 135 #[.val (.int i0), .val (.int i1), .val (.int i2), .val (.int i3), .val (.int i4), .val (.int i5), .val (.int z1), .val (.int b1), .val (.int x1), .val (.int zz5), .val (.int z6), .val (.int kd), .val (.int z9), .val (.ref b12), .unset, .unset] [(.int z9), (.int z6), (.int zz5), (.ref b14), (.ref b14)])) (fun _ k => XS.iload X14.here hx rfl (hb hby at_133) rfl k) ?_
          obtain ⟨_, _, ⟨T15, L15, k15, n15⟩, -, X15, ⟨Lc15, hQ15, l15, y15, z15⟩, st15⟩ := X14.specialBack hx (y := (⟨"com/example/godwit/godwit/StoreSettings", "<init>", "(III)V"⟩ : MethodName)) rfl hown (mvT hZ (hw _ (List.mem_of_getElem? (i := 4) rfl))) (mvT hZ (hw _ (List.mem_of_getElem? (i := 5) rfl))) (mvT hZ (hw _ (List.mem_of_getElem? (i := 6) rfl))) (by decide) (backOf (W := 1) (own_rm2 l Z a0 hw [] b14 zz5 z6 z9 h14 n0 Zs F_b14_timeBinSeconds F_b14_hilbertBits F_b14_xzResolution E_b14 g_b14 (by omega)) hZ (hw _ (List.mem_of_getElem? (i := 6) rfl)) (hw _ (List.mem_of_getElem? (i := 3) rfl)) (by decide) (by decide)) (g := (mkF m 135 #[.val (.int i0), .val (.int i1), .val (.int i2), .val (.int i3), .val (.int i4), .val (.int i5), .val (.int z1), .val (.int b1), .val (.int x1), .val (.int zz5), .val (.int z6), .val (.int kd), .val (.int z9), .val (.ref b12), .unset, .unset] [(.int z9), (.int z6), (.int zz5), (.ref b14), (.ref b14)])) rfl (by rw [hml]; rfl) (Steps.refl _) (a := b14) (argsL := [(.int zz5), (.int z6), (.int z9)]) (rest := [(.ref b14)]) (lenOf own_pd0_1 rfl) rfl (by show 2 * 0 + _ ≤ _; exact Nat.le_of_eq rfl) (hb hby at_135) (fun _ _ => ⟨rfl, e14, (by decide : 2 + 0 ≤ _), (by decide : 6 + 0 ≤ _)⟩)
          dsimp only [Pt.U, Pt.locs, Pt.cells, Pt.slots] at X15 l15 y15 z15 st15 hQ15
          subst l15 y15 z15
          obtain ⟨rfl, NQ15, K15, E_b14, F_b14_timeBinSeconds, F_b14_hilbertBits, F_b14_xzResolution⟩ := hQ15
          have NF := Fr.app NF NQ15
          have OL := OL.keep K15 (allS g_b14 all0)
          have E_b12 := E_b12.keep K15
          have F_b12_timeBinSeconds := F_b12_timeBinSeconds.keep K15 (ninS ne_b12_b14 nin0)
          have F_b12_hilbertBits := F_b12_hilbertBits.keep K15 (ninS ne_b12_b14 nin0)
          have F_b12_xzResolution := F_b12_xzResolution.keep K15 (ninS ne_b12_b14 nin0)
          have Zs := Nat.le_trans Zs K15.1
          refine own_go (T' := T15) (g' := (mkF m 138 #[.val (.int i0), .val (.int i1), .val (.int i2), .val (.int i3), .val (.int i4), .val (.int i5), .val (.int z1), .val (.int b1), .val (.int x1), .val (.int zz5), .val (.int z6), .val (.int kd), .val (.int z9), .val (.ref b12), .unset, .unset] [(.ref b14)])) (fun _ k => st15.trans k) ?_
          refine own_go (T' := T15) (g' := (mkF m 140 #[.val (.int i0), .val (.int i1), .val (.int i2), .val (.int i3), .val (.int i4), .val (.int i5), .val (.int z1), .val (.int b1), .val (.int x1), .val (.int zz5), .val (.int z6), .val (.int kd), .val (.int z9), .val (.ref b12), .val (.ref b14), .unset] [])) (fun _ k => XS.astore X15.here hx rfl (hb hby at_138) rfl rfl (l' := #[.val (.int i0), .val (.int i1), .val (.int i2), .val (.int i3), .val (.int i4), .val (.int i5), .val (.int z1), .val (.int b1), .val (.int x1), .val (.int zz5), .val (.int z6), .val (.int kd), .val (.int z9), .val (.ref b12), .val (.ref b14), .unset]) rfl k) ?_
          refine own_go (T' := T15) (g' := (mkF m 142 #[.val (.int i0), .val (.int i1), .val (.int i2), .val (.int i3), .val (.int i4), .val (.int i5), .val (.int z1), .val (.int b1), .val (.int x1), .val (.int zz5), .val (.int z6), .val (.int kd), .val (.int z9), .val (.ref b12), .val (.ref b14), .unset] [(.ref b12)])) (fun _ k => XS.aload X15.here hx rfl (hb hby at_140) rfl rfl k) ?_
          refine own_go (T' := T15) (g' := (mkF m 144 #[.val (.int i0), .val (.int i1), .val (.int i2), .val (.int i3), .val (.int i4), .val (.int i5), .val (.int z1), .val (.int b1), .val (.int x1), .val (.int zz5), .val (.int z6), .val (.int kd), .val (.int z9), .val (.ref b12), .val (.ref b14), .unset] [(.ref b12), (.ref b12)])) (fun _ k => XS.aload X15.here hx rfl (hb hby at_142) rfl rfl k) ?_
          obtain ⟨cq16, kq16, q16a, q16b, q16c⟩ := isOf hZ rfl E_b12
          obtain ⟨_, _, ⟨T16, L16, k16, n16⟩, -, X16, ⟨Lc16, hQ16, l16, y16, z16⟩, st16⟩ := X15.virtualBack hx (y := (⟨"com/example/godwit/godwit/StoreSettings", "equals", "(Ljava/lang/Object;)Z"⟩ : MethodName)) (z := (⟨"com/example/godwit/godwit/StoreSettings", "equals", "(Ljava/lang/Object;)Z"⟩ : MethodName)) hown (mvT hZ (hw _ (List.mem_of_getElem? (i := 16) rfl))) (mvT hZ (hw _ (List.mem_of_getElem? (i := 17) rfl))) (notFace_of_selects (args := #[]) (mvT hZ (hw _ (List.mem_of_getElem? (i := 19) rfl)))) (mvT hZ (hw _ (List.mem_of_getElem? (i := 19) rfl))) (mvT hZ (hw _ (List.mem_of_getElem? (i := 18) rfl))) (by decide) (backOf (W := 0) (own_rm6 l Z a0 hw [] b12 b12 z1 b1 x1 z1 b1 x1 T15.heap n0 Zs F_b12_timeBinSeconds F_b12_hilbertBits F_b12_xzResolution F_b12_timeBinSeconds F_b12_hilbertBits F_b12_xzResolution E_b12) hZ (hw _ (List.mem_of_getElem? (i := 20) rfl)) (hw _ (List.mem_of_getElem? (i := 3) rfl)) (by decide) (by decide)) q16a q16c (g := (mkF m 144 #[.val (.int i0), .val (.int i1), .val (.int i2), .val (.int i3), .val (.int i4), .val (.int i5), .val (.int z1), .val (.int b1), .val (.int x1), .val (.int zz5), .val (.int z6), .val (.int kd), .val (.int z9), .val (.ref b12), .val (.ref b14), .unset] [(.ref b12), (.ref b12)])) rfl (by rw [hml]; rfl) (Steps.refl _) (argsL := [(.ref b12)]) (rest := []) (lenOf own_pd0_2 rfl) rfl (by show 2 * 0 + _ ≤ _; exact Nat.le_of_eq rfl) (hb hby at_144) (fun _ _ => ⟨rfl, rfl, (by decide : 2 + 0 ≤ _), (by decide : 6 + 0 ≤ _)⟩)
          dsimp only [Pt.U, Pt.locs, Pt.cells, Pt.slots] at X16 l16 y16 z16 st16 hQ16
          subst l16 y16 z16
          obtain ⟨rfl, NQ16, eq16⟩ := hQ16
          have NF := Fr.app NF NQ16
          refine own_go (T' := T16) (g' := (mkF m 147 #[.val (.int i0), .val (.int i1), .val (.int i2), .val (.int i3), .val (.int i4), .val (.int i5), .val (.int z1), .val (.int b1), .val (.int x1), .val (.int zz5), .val (.int z6), .val (.int kd), .val (.int z9), .val (.ref b12), .val (.ref b14), .unset] [(.int (if (z1.toInt = z1.toInt ∧ b1.toInt = b1.toInt ∧ x1.toInt = x1.toInt) then (1 : Int32) else 0))])) (fun _ k => st16.trans k) ?_
          have hq : ¬ (if (z1.toInt = z1.toInt ∧ b1.toInt = b1.toInt ∧ x1.toInt = x1.toInt) then (1 : Int32) else 0) = (0 : Int32) := by rw [if_pos (by omega)]; decide
          refine own_go (T' := T16) (g' := (mkF m 152 #[.val (.int i0), .val (.int i1), .val (.int i2), .val (.int i3), .val (.int i4), .val (.int i5), .val (.int z1), .val (.int b1), .val (.int x1), .val (.int zz5), .val (.int z6), .val (.int kd), .val (.int z9), .val (.ref b12), .val (.ref b14), .unset] [])) (fun _ k => XS.ifYes X16.here hx rfl (pc0 := 147) (pc' := 152) rfl (hb hby at_147) rfl ((if0 _ _).trans (feq hq).2) (by decide) (by decide) k) ?_
          refine own_go (T' := T16) (g' := (mkF m 154 #[.val (.int i0), .val (.int i1), .val (.int i2), .val (.int i3), .val (.int i4), .val (.int i5), .val (.int z1), .val (.int b1), .val (.int x1), .val (.int zz5), .val (.int z6), .val (.int kd), .val (.int z9), .val (.ref b12), .val (.ref b14), .unset] [(.int kd)])) (fun _ k => XS.iload X16.here hx rfl (hb hby at_152) rfl k) ?_
          refine own_go (T' := T16) (g' := (mkF m 155 #[.val (.int i0), .val (.int i1), .val (.int i2), .val (.int i3), .val (.int i4), .val (.int i5), .val (.int z1), .val (.int b1), .val (.int x1), .val (.int zz5), .val (.int z6), .val (.int kd), .val (.int z9), .val (.ref b12), .val (.ref b14), .unset] [(.int (2 : Int32)), (.int kd)])) (fun _ k => XS.iconst X16.here hx rfl (hb hby at_154) k) ?_
          by_cases c17 : kd = (2 : Int32)
          · refine own_go (T' := T16) (g' := (mkF m 158 #[.val (.int i0), .val (.int i1), .val (.int i2), .val (.int i3), .val (.int i4), .val (.int i5), .val (.int z1), .val (.int b1), .val (.int x1), .val (.int zz5), .val (.int z6), .val (.int kd), .val (.int z9), .val (.ref b12), .val (.ref b14), .unset] [])) (fun _ k => XS.icmpNo X16.here hx rfl (hb hby at_155) rfl (teq c17).2 k) ?_
            refine own_go (T' := T16) (g' := (mkF m 160 #[.val (.int i0), .val (.int i1), .val (.int i2), .val (.int i3), .val (.int i4), .val (.int i5), .val (.int z1), .val (.int b1), .val (.int x1), .val (.int zz5), .val (.int z6), .val (.int kd), .val (.int z9), .val (.ref b12), .val (.ref b14), .unset] [(.ref b12)])) (fun _ k => XS.aload X16.here hx rfl (hb hby at_158) rfl rfl k) ?_
            refine own_go (T' := T16) (g' := (mkF m 161 #[.val (.int i0), .val (.int i1), .val (.int i2), .val (.int i3), .val (.int i4), .val (.int i5), .val (.int z1), .val (.int b1), .val (.int x1), .val (.int zz5), .val (.int z6), .val (.int kd), .val (.int z9), .val (.ref b12), .val (.ref b14), .unset] [.null, (.ref b12)])) (fun _ k => XS.aconstNull X16.here hx rfl (hb hby at_160) k) ?_
            obtain ⟨cq18, kq18, q18a, q18b, q18c⟩ := isOf hZ eq16 E_b12
            obtain ⟨_, _, ⟨T18, L18, k18, n18⟩, -, X18, ⟨Lc18, hQ18, l18, y18, z18⟩, st18⟩ := X16.virtualBack hx (y := (⟨"com/example/godwit/godwit/StoreSettings", "equals", "(Ljava/lang/Object;)Z"⟩ : MethodName)) (z := (⟨"com/example/godwit/godwit/StoreSettings", "equals", "(Ljava/lang/Object;)Z"⟩ : MethodName)) hown (mvT hZ (hw _ (List.mem_of_getElem? (i := 16) rfl))) (mvT hZ (hw _ (List.mem_of_getElem? (i := 17) rfl))) (notFace_of_selects (args := #[]) (mvT hZ (hw _ (List.mem_of_getElem? (i := 19) rfl)))) (mvT hZ (hw _ (List.mem_of_getElem? (i := 19) rfl))) (mvT hZ (hw _ (List.mem_of_getElem? (i := 18) rfl))) (by decide) (backOf (W := 0) (own_rm7 l Z a0 hw [] b12 T15.heap n0 Zs) hZ (hw _ (List.mem_of_getElem? (i := 20) rfl)) (hw _ (List.mem_of_getElem? (i := 3) rfl)) (by decide) (by decide)) q18a q18c (g := (mkF m 161 #[.val (.int i0), .val (.int i1), .val (.int i2), .val (.int i3), .val (.int i4), .val (.int i5), .val (.int z1), .val (.int b1), .val (.int x1), .val (.int zz5), .val (.int z6), .val (.int kd), .val (.int z9), .val (.ref b12), .val (.ref b14), .unset] [.null, (.ref b12)])) rfl (by rw [hml]; rfl) (Steps.refl _) (argsL := [.null]) (rest := []) (lenOf own_pd0_2 rfl) rfl (by show 2 * 0 + _ ≤ _; exact Nat.le_of_eq rfl) (hb hby at_161) (fun _ _ => ⟨rfl, eq16, (by decide : 2 + 0 ≤ _), (by decide : 6 + 0 ≤ _)⟩)
            dsimp only [Pt.U, Pt.locs, Pt.cells, Pt.slots] at X18 l18 y18 z18 st18 hQ18
            subst l18 y18 z18
            obtain ⟨rfl, NQ18, eq18⟩ := hQ18
            have NF := Fr.app NF NQ18
            refine own_go (T' := T18) (g' := (mkF m 164 #[.val (.int i0), .val (.int i1), .val (.int i2), .val (.int i3), .val (.int i4), .val (.int i5), .val (.int z1), .val (.int b1), .val (.int x1), .val (.int zz5), .val (.int z6), .val (.int kd), .val (.int z9), .val (.ref b12), .val (.ref b14), .unset] [(.int (0 : Int32))])) (fun _ k => st18.trans k) ?_
            refine own_go (T' := T18) (g' := (mkF m 167 #[.val (.int i0), .val (.int i1), .val (.int i2), .val (.int i3), .val (.int i4), .val (.int i5), .val (.int z1), .val (.int b1), .val (.int x1), .val (.int zz5), .val (.int z6), .val (.int kd), .val (.int z9), .val (.ref b12), .val (.ref b14), .unset] [])) (fun _ k => XS.ifNo X18.here hx rfl (hb hby at_164) rfl (by decide) k) ?_
            refine own_go (T' := T18) (g' := (mkF m 168 #[.val (.int i0), .val (.int i1), .val (.int i2), .val (.int i3), .val (.int i4), .val (.int i5), .val (.int z1), .val (.int b1), .val (.int x1), .val (.int zz5), .val (.int z6), .val (.int kd), .val (.int z9), .val (.ref b12), .val (.ref b14), .unset] [(.int (1 : Int32))])) (fun _ k => XS.iconst X18.here hx rfl (hb hby at_167) k) ?_
            refine own_go (T' := T18) (g' := (mkF m 172 #[.val (.int i0), .val (.int i1), .val (.int i2), .val (.int i3), .val (.int i4), .val (.int i5), .val (.int z1), .val (.int b1), .val (.int x1), .val (.int zz5), .val (.int z6), .val (.int kd), .val (.int z9), .val (.ref b12), .val (.ref b14), .unset] [(.int (1 : Int32))])) (fun _ k => XS.goto X18.here hx rfl (pc0 := 168) (pc' := 172) rfl (hb hby at_168) (by decide) (by decide) k) ?_
            refine own_ret X18 Bd.notSynchronized (some (.int (1 : Int32))) (fun h => by rw [Bd.returns] at h; cases h) (fun fs hr => retN X18 hx (t := .boolean) Bd.returns (by simp) (hb hby at_172) hr) ?_ (by decide) (by decide)
            show (own_Q0 Z i0 i1 i2 i3 i4 i5 ca cc bval h0 n0) (some (.int (1 : Int32))) T18.heap _
            rw [eq18]
            exact ⟨rfl, NF⟩
          · refine own_go (T' := T16) (g' := (mkF m 173 #[.val (.int i0), .val (.int i1), .val (.int i2), .val (.int i3), .val (.int i4), .val (.int i5), .val (.int z1), .val (.int b1), .val (.int x1), .val (.int zz5), .val (.int z6), .val (.int kd), .val (.int z9), .val (.ref b12), .val (.ref b14), .unset] [])) (fun _ k => XS.icmpYes X16.here hx rfl (pc0 := 155) (pc' := 173) rfl (hb hby at_155) rfl (feq c17).2 (by decide) (by decide) k) ?_
            refine own_go (T' := T16) (g' := (mkF m 175 #[.val (.int i0), .val (.int i1), .val (.int i2), .val (.int i3), .val (.int i4), .val (.int i5), .val (.int z1), .val (.int b1), .val (.int x1), .val (.int zz5), .val (.int z6), .val (.int kd), .val (.int z9), .val (.ref b12), .val (.ref b14), .unset] [(.int kd)])) (fun _ k => XS.iload X16.here hx rfl (hb hby at_173) rfl k) ?_
            refine own_go (T' := T16) (g' := (mkF m 176 #[.val (.int i0), .val (.int i1), .val (.int i2), .val (.int i3), .val (.int i4), .val (.int i5), .val (.int z1), .val (.int b1), .val (.int x1), .val (.int zz5), .val (.int z6), .val (.int kd), .val (.int z9), .val (.ref b12), .val (.ref b14), .unset] [(.int (3 : Int32)), (.int kd)])) (fun _ k => XS.iconst X16.here hx rfl (hb hby at_175) k) ?_
            by_cases c19 : kd = (3 : Int32)
            · refine own_go (T' := T16) (g' := (mkF m 179 #[.val (.int i0), .val (.int i1), .val (.int i2), .val (.int i3), .val (.int i4), .val (.int i5), .val (.int z1), .val (.int b1), .val (.int x1), .val (.int zz5), .val (.int z6), .val (.int kd), .val (.int z9), .val (.ref b12), .val (.ref b14), .unset] [])) (fun _ k => XS.icmpNo X16.here hx rfl (hb hby at_176) rfl (teq c19).2 k) ?_
              refine own_go (T' := T16) (g' := (mkF m 181 #[.val (.int i0), .val (.int i1), .val (.int i2), .val (.int i3), .val (.int i4), .val (.int i5), .val (.int z1), .val (.int b1), .val (.int x1), .val (.int zz5), .val (.int z6), .val (.int kd), .val (.int z9), .val (.ref b12), .val (.ref b14), .unset] [(.ref b12)])) (fun _ k => XS.aload X16.here hx rfl (hb hby at_179) rfl rfl k) ?_
              refine own_go (T' := T16) (g' := (mkF m 183 #[.val (.int i0), .val (.int i1), .val (.int i2), .val (.int i3), .val (.int i4), .val (.int i5), .val (.int z1), .val (.int b1), .val (.int x1), .val (.int zz5), .val (.int z6), .val (.int kd), .val (.int z9), .val (.ref b12), .val (.ref b14), .unset] [(.int z1), (.ref b12)])) (fun _ k => XS.iload X16.here hx rfl (hb hby at_181) rfl k) ?_
              obtain ⟨_, _, ⟨T20, L20, k20, n20⟩, -, X20, ⟨Lc20, hQ20, l20, y20, z20⟩, st20⟩ := Jvm.LawKit.callS X16 hx (y := (⟨"java/lang/Integer", "valueOf", "(I)Ljava/lang/Integer;"⟩ : MethodName)) hown (mvT hZ (hw _ (List.mem_of_getElem? (i := 27) rfl))) (mvT hZ (hw _ (List.mem_of_getElem? (i := 28) rfl))) (mvT hZ (hw _ (List.mem_of_getElem? (i := 29) rfl))) (mvT hZ (hw _ (List.mem_of_getElem? (i := 30) rfl))) (by decide) (backOf (W := 1) (own_rm5 l Z a0 hw [] z1 ca cc bval T15.heap n0 Zs OL S_high S_cache BX) hZ (hw _ (List.mem_of_getElem? (i := 30) rfl)) (hw _ (List.mem_of_getElem? (i := 29) rfl)) (by decide) (by decide)) (g := (mkF m 183 #[.val (.int i0), .val (.int i1), .val (.int i2), .val (.int i3), .val (.int i4), .val (.int i5), .val (.int z1), .val (.int b1), .val (.int x1), .val (.int zz5), .val (.int z6), .val (.int kd), .val (.int z9), .val (.ref b12), .val (.ref b14), .unset] [(.int z1), (.ref b12)])) rfl (by rw [hml]; rfl) (argsL := [(.int z1)]) (rest := [(.ref b12)]) (lenOf own_pd0_3 rfl) rfl (by show 2 * 0 + _ ≤ _; exact Nat.le_of_eq rfl) (hb hby at_183) (fun _ _ => ⟨rfl, eq16, (by decide : 2 + 1 ≤ _), (by decide : 6 + 1 ≤ _)⟩)
              dsimp only [Pt.U, Pt.locs, Pt.cells, Pt.slots] at X20 l20 y20 z20 st20 hQ20
              subst l20 y20 z20
              obtain ⟨⟨bx20, rfl, E_bx20⟩, NQ20, K20⟩ := hQ20
              have NF := Fr.app NF NQ20
              have OL := OL.keep K20 all0
              have E_b12 := E_b12.keep K20
              have F_b12_timeBinSeconds := F_b12_timeBinSeconds.keep K20 nin0
              have F_b12_hilbertBits := F_b12_hilbertBits.keep K20 nin0
              have F_b12_xzResolution := F_b12_xzResolution.keep K20 nin0
              have E_b14 := E_b14.keep K20
              have F_b14_timeBinSeconds := F_b14_timeBinSeconds.keep K20 nin0
              have F_b14_hilbertBits := F_b14_hilbertBits.keep K20 nin0
              have F_b14_xzResolution := F_b14_xzResolution.keep K20 nin0
              have Zs := Nat.le_trans Zs K20.1
              refine own_go (T' := T20) (g' := (mkF m 186 #[.val (.int i0), .val (.int i1), .val (.int i2), .val (.int i3), .val (.int i4), .val (.int i5), .val (.int z1), .val (.int b1), .val (.int x1), .val (.int zz5), .val (.int z6), .val (.int kd), .val (.int z9), .val (.ref b12), .val (.ref b14), .unset] [(.ref bx20), (.ref b12)])) (fun _ k => st20 _ k) ?_
              obtain ⟨cq21, kq21, q21a, q21b, q21c⟩ := isOf hZ rfl E_b12
              obtain ⟨_, _, ⟨T21, L21, k21, n21⟩, -, X21, ⟨Lc21, hQ21, l21, y21, z21⟩, st21⟩ := X20.virtualBack hx (y := (⟨"com/example/godwit/godwit/StoreSettings", "equals", "(Ljava/lang/Object;)Z"⟩ : MethodName)) (z := (⟨"com/example/godwit/godwit/StoreSettings", "equals", "(Ljava/lang/Object;)Z"⟩ : MethodName)) hown (mvT hZ (hw _ (List.mem_of_getElem? (i := 16) rfl))) (mvT hZ (hw _ (List.mem_of_getElem? (i := 17) rfl))) (notFace_of_selects (args := #[]) (mvT hZ (hw _ (List.mem_of_getElem? (i := 19) rfl)))) (mvT hZ (hw _ (List.mem_of_getElem? (i := 19) rfl))) (mvT hZ (hw _ (List.mem_of_getElem? (i := 18) rfl))) (by decide) (backOf (W := 0) (own_rm8 l Z a0 hw [] b12 bx20 T20.heap n0 Zs E_bx20) hZ (hw _ (List.mem_of_getElem? (i := 20) rfl)) (hw _ (List.mem_of_getElem? (i := 3) rfl)) (by decide) (by decide)) q21a q21c (g := (mkF m 186 #[.val (.int i0), .val (.int i1), .val (.int i2), .val (.int i3), .val (.int i4), .val (.int i5), .val (.int z1), .val (.int b1), .val (.int x1), .val (.int zz5), .val (.int z6), .val (.int kd), .val (.int z9), .val (.ref b12), .val (.ref b14), .unset] [(.ref bx20), (.ref b12)])) rfl (by rw [hml]; rfl) (Steps.refl _) (argsL := [(.ref bx20)]) (rest := []) (lenOf own_pd0_2 rfl) rfl (by show 2 * 0 + _ ≤ _; exact Nat.le_of_eq rfl) (hb hby at_186) (fun _ _ => ⟨rfl, rfl, (by decide : 3 + 0 ≤ _), (by decide : 7 + 0 ≤ _)⟩)
              dsimp only [Pt.U, Pt.locs, Pt.cells, Pt.slots] at X21 l21 y21 z21 st21 hQ21
              subst l21 y21 z21
              obtain ⟨rfl, NQ21, eq21⟩ := hQ21
              have NF := Fr.app NF NQ21
              refine own_go (T' := T21) (g' := (mkF m 189 #[.val (.int i0), .val (.int i1), .val (.int i2), .val (.int i3), .val (.int i4), .val (.int i5), .val (.int z1), .val (.int b1), .val (.int x1), .val (.int zz5), .val (.int z6), .val (.int kd), .val (.int z9), .val (.ref b12), .val (.ref b14), .unset] [(.int (0 : Int32))])) (fun _ k => st21.trans k) ?_
              refine own_go (T' := T21) (g' := (mkF m 192 #[.val (.int i0), .val (.int i1), .val (.int i2), .val (.int i3), .val (.int i4), .val (.int i5), .val (.int z1), .val (.int b1), .val (.int x1), .val (.int zz5), .val (.int z6), .val (.int kd), .val (.int z9), .val (.ref b12), .val (.ref b14), .unset] [])) (fun _ k => XS.ifNo X21.here hx rfl (hb hby at_189) rfl (by decide) k) ?_
              refine own_go (T' := T21) (g' := (mkF m 193 #[.val (.int i0), .val (.int i1), .val (.int i2), .val (.int i3), .val (.int i4), .val (.int i5), .val (.int z1), .val (.int b1), .val (.int x1), .val (.int zz5), .val (.int z6), .val (.int kd), .val (.int z9), .val (.ref b12), .val (.ref b14), .unset] [(.int (1 : Int32))])) (fun _ k => XS.iconst X21.here hx rfl (hb hby at_192) k) ?_
              refine own_go (T' := T21) (g' := (mkF m 197 #[.val (.int i0), .val (.int i1), .val (.int i2), .val (.int i3), .val (.int i4), .val (.int i5), .val (.int z1), .val (.int b1), .val (.int x1), .val (.int zz5), .val (.int z6), .val (.int kd), .val (.int z9), .val (.ref b12), .val (.ref b14), .unset] [(.int (1 : Int32))])) (fun _ k => XS.goto X21.here hx rfl (pc0 := 193) (pc' := 197) rfl (hb hby at_193) (by decide) (by decide) k) ?_
              refine own_ret X21 Bd.notSynchronized (some (.int (1 : Int32))) (fun h => by rw [Bd.returns] at h; cases h) (fun fs hr => retN X21 hx (t := .boolean) Bd.returns (by simp) (hb hby at_197) hr) ?_ (by decide) (by decide)
              show (own_Q0 Z i0 i1 i2 i3 i4 i5 ca cc bval h0 n0) (some (.int (1 : Int32))) T21.heap _
              rw [eq21]
              exact ⟨rfl, NF⟩
            · refine own_go (T' := T16) (g' := (mkF m 198 #[.val (.int i0), .val (.int i1), .val (.int i2), .val (.int i3), .val (.int i4), .val (.int i5), .val (.int z1), .val (.int b1), .val (.int x1), .val (.int zz5), .val (.int z6), .val (.int kd), .val (.int z9), .val (.ref b12), .val (.ref b14), .unset] [])) (fun _ k => XS.icmpYes X16.here hx rfl (pc0 := 176) (pc' := 198) rfl (hb hby at_176) rfl (feq c19).2 (by decide) (by decide) k) ?_
              refine own_go (T' := T16) (g' := (mkF m 200 #[.val (.int i0), .val (.int i1), .val (.int i2), .val (.int i3), .val (.int i4), .val (.int i5), .val (.int z1), .val (.int b1), .val (.int x1), .val (.int zz5), .val (.int z6), .val (.int kd), .val (.int z9), .val (.ref b12), .val (.ref b14), .unset] [(.int z1)])) (fun _ k => XS.iload X16.here hx rfl (hb hby at_198) rfl k) ?_
              refine own_go (T' := T16) (g' := (mkF m 202 #[.val (.int i0), .val (.int i1), .val (.int i2), .val (.int i3), .val (.int i4), .val (.int i5), .val (.int z1), .val (.int b1), .val (.int x1), .val (.int zz5), .val (.int z6), .val (.int kd), .val (.int z9), .val (.ref b12), .val (.ref b14), .unset] [(.int zz5), (.int z1)])) (fun _ k => XS.iload X16.here hx rfl (hb hby at_200) rfl k) ?_
              have J24 : ∀ (z22 : Int32), ((z22.toInt = 1 ∧ (z1.toInt = zz5.toInt ∧ b1.toInt = z6.toInt ∧ x1.toInt = z9.toInt)) ∨ (z22.toInt = 0 ∧ ¬ (z1.toInt = zz5.toInt ∧ b1.toInt = z6.toInt ∧ x1.toInt = z9.toInt))) → own_Dn p e below s (own_Q0 Z i0 i1 i2 i3 i4 i5 ca cc bval h0 n0) room_1.cells room_1.slots T16 (mkF m 224 #[.val (.int i0), .val (.int i1), .val (.int i2), .val (.int i3), .val (.int i4), .val (.int i5), .val (.int z1), .val (.int b1), .val (.int x1), .val (.int zz5), .val (.int z6), .val (.int kd), .val (.int z9), .val (.ref b12), .val (.ref b14), .unset] [(.int z22)]) := by
                intro z22 hz23
                refine own_go (T' := T16) (g' := (mkF m 226 #[.val (.int i0), .val (.int i1), .val (.int i2), .val (.int i3), .val (.int i4), .val (.int i5), .val (.int z1), .val (.int b1), .val (.int x1), .val (.int zz5), .val (.int z6), .val (.int kd), .val (.int z9), .val (.ref b12), .val (.ref b14), .val (.int z22)] [])) (fun _ k => XS.istore X16.here hx rfl (hb hby at_224) rfl (l' := #[.val (.int i0), .val (.int i1), .val (.int i2), .val (.int i3), .val (.int i4), .val (.int i5), .val (.int z1), .val (.int b1), .val (.int x1), .val (.int zz5), .val (.int z6), .val (.int kd), .val (.int z9), .val (.ref b12), .val (.ref b14), .val (.int z22)]) rfl k) ?_
                refine own_go (T' := T16) (g' := (mkF m 228 #[.val (.int i0), .val (.int i1), .val (.int i2), .val (.int i3), .val (.int i4), .val (.int i5), .val (.int z1), .val (.int b1), .val (.int x1), .val (.int zz5), .val (.int z6), .val (.int kd), .val (.int z9), .val (.ref b12), .val (.ref b14), .val (.int z22)] [(.ref b12)])) (fun _ k => XS.aload X16.here hx rfl (hb hby at_226) rfl rfl k) ?_
                refine own_go (T' := T16) (g' := (mkF m 230 #[.val (.int i0), .val (.int i1), .val (.int i2), .val (.int i3), .val (.int i4), .val (.int i5), .val (.int z1), .val (.int b1), .val (.int x1), .val (.int zz5), .val (.int z6), .val (.int kd), .val (.int z9), .val (.ref b12), .val (.ref b14), .val (.int z22)] [(.ref b14), (.ref b12)])) (fun _ k => XS.aload X16.here hx rfl (hb hby at_228) rfl rfl k) ?_
                obtain ⟨cq25, kq25, q25a, q25b, q25c⟩ := isOf hZ eq16 E_b12
                obtain ⟨_, _, ⟨T25, L25, k25, n25⟩, -, X25, ⟨Lc25, hQ25, l25, y25, z25⟩, st25⟩ := X16.virtualBack hx (y := (⟨"com/example/godwit/godwit/StoreSettings", "equals", "(Ljava/lang/Object;)Z"⟩ : MethodName)) (z := (⟨"com/example/godwit/godwit/StoreSettings", "equals", "(Ljava/lang/Object;)Z"⟩ : MethodName)) hown (mvT hZ (hw _ (List.mem_of_getElem? (i := 16) rfl))) (mvT hZ (hw _ (List.mem_of_getElem? (i := 17) rfl))) (notFace_of_selects (args := #[]) (mvT hZ (hw _ (List.mem_of_getElem? (i := 19) rfl)))) (mvT hZ (hw _ (List.mem_of_getElem? (i := 19) rfl))) (mvT hZ (hw _ (List.mem_of_getElem? (i := 18) rfl))) (by decide) (backOf (W := 0) (own_rm6 l Z a0 hw [] b12 b14 z1 b1 x1 zz5 z6 z9 T15.heap n0 Zs F_b12_timeBinSeconds F_b12_hilbertBits F_b12_xzResolution F_b14_timeBinSeconds F_b14_hilbertBits F_b14_xzResolution E_b14) hZ (hw _ (List.mem_of_getElem? (i := 20) rfl)) (hw _ (List.mem_of_getElem? (i := 3) rfl)) (by decide) (by decide)) q25a q25c (g := (mkF m 230 #[.val (.int i0), .val (.int i1), .val (.int i2), .val (.int i3), .val (.int i4), .val (.int i5), .val (.int z1), .val (.int b1), .val (.int x1), .val (.int zz5), .val (.int z6), .val (.int kd), .val (.int z9), .val (.ref b12), .val (.ref b14), .val (.int z22)] [(.ref b14), (.ref b12)])) rfl (by rw [hml]; rfl) (Steps.refl _) (argsL := [(.ref b14)]) (rest := []) (lenOf own_pd0_2 rfl) rfl (by show 2 * 0 + _ ≤ _; exact Nat.le_of_eq rfl) (hb hby at_230) (fun _ _ => ⟨rfl, eq16, (by decide : 2 + 0 ≤ _), (by decide : 6 + 0 ≤ _)⟩)
                dsimp only [Pt.U, Pt.locs, Pt.cells, Pt.slots] at X25 l25 y25 z25 st25 hQ25
                subst l25 y25 z25
                obtain ⟨rfl, NQ25, eq25⟩ := hQ25
                have NF := Fr.app NF NQ25
                refine own_go (T' := T25) (g' := (mkF m 233 #[.val (.int i0), .val (.int i1), .val (.int i2), .val (.int i3), .val (.int i4), .val (.int i5), .val (.int z1), .val (.int b1), .val (.int x1), .val (.int zz5), .val (.int z6), .val (.int kd), .val (.int z9), .val (.ref b12), .val (.ref b14), .val (.int z22)] [(.int (if (z1.toInt = zz5.toInt ∧ b1.toInt = z6.toInt ∧ x1.toInt = z9.toInt) then (1 : Int32) else 0))])) (fun _ k => st25.trans k) ?_
                refine own_go (T' := T25) (g' := (mkF m 235 #[.val (.int i0), .val (.int i1), .val (.int i2), .val (.int i3), .val (.int i4), .val (.int i5), .val (.int z1), .val (.int b1), .val (.int x1), .val (.int zz5), .val (.int z6), .val (.int kd), .val (.int z9), .val (.ref b12), .val (.ref b14), .val (.int z22)] [(.int z22), (.int (if (z1.toInt = zz5.toInt ∧ b1.toInt = z6.toInt ∧ x1.toInt = z9.toInt) then (1 : Int32) else 0))])) (fun _ k => XS.iload X25.here hx rfl (hb hby at_233) rfl k) ?_
                have hq235 : (if (z1.toInt = zz5.toInt ∧ b1.toInt = z6.toInt ∧ x1.toInt = z9.toInt) then (1 : Int32) else 0) = z22 := by
                  have hh := own_ite (P := z1.toInt = zz5.toInt ∧ b1.toInt = z6.toInt ∧ x1.toInt = z9.toInt)
                  (try simp only [own_ln128, own_l0, own_l1, own_l2, own_l3, own_l29, own_l31, own_l127, own_l128, own_l256, own_l2147483647, Int32.lt_iff_toInt_lt, ← Int32.toInt_inj, Int64.lt_iff_toInt_lt, ← Int64.toInt_inj, and_true, true_and, and_false, false_and, or_true, true_or, or_false, false_or, not_true_eq_false, not_false_eq_true, ne_eq, true_implies, false_implies, implies_true] at hh ⊢) <;> omega
                refine own_go (T' := T25) (g' := (mkF m 238 #[.val (.int i0), .val (.int i1), .val (.int i2), .val (.int i3), .val (.int i4), .val (.int i5), .val (.int z1), .val (.int b1), .val (.int x1), .val (.int zz5), .val (.int z6), .val (.int kd), .val (.int z9), .val (.ref b12), .val (.ref b14), .val (.int z22)] [])) (fun _ k => XS.icmpNo X25.here hx rfl (hb hby at_235) rfl (teq hq235).2 k) ?_
                refine own_go (T' := T25) (g' := (mkF m 240 #[.val (.int i0), .val (.int i1), .val (.int i2), .val (.int i3), .val (.int i4), .val (.int i5), .val (.int z1), .val (.int b1), .val (.int x1), .val (.int zz5), .val (.int z6), .val (.int kd), .val (.int z9), .val (.ref b12), .val (.ref b14), .val (.int z22)] [(.ref b14)])) (fun _ k => XS.aload X25.here hx rfl (hb hby at_238) rfl rfl k) ?_
                refine own_go (T' := T25) (g' := (mkF m 242 #[.val (.int i0), .val (.int i1), .val (.int i2), .val (.int i3), .val (.int i4), .val (.int i5), .val (.int z1), .val (.int b1), .val (.int x1), .val (.int zz5), .val (.int z6), .val (.int kd), .val (.int z9), .val (.ref b12), .val (.ref b14), .val (.int z22)] [(.ref b12), (.ref b14)])) (fun _ k => XS.aload X25.here hx rfl (hb hby at_240) rfl rfl k) ?_
                obtain ⟨cq26, kq26, q26a, q26b, q26c⟩ := isOf hZ eq25 E_b14
                obtain ⟨_, _, ⟨T26, L26, k26, n26⟩, -, X26, ⟨Lc26, hQ26, l26, y26, z26⟩, st26⟩ := X25.virtualBack hx (y := (⟨"com/example/godwit/godwit/StoreSettings", "equals", "(Ljava/lang/Object;)Z"⟩ : MethodName)) (z := (⟨"com/example/godwit/godwit/StoreSettings", "equals", "(Ljava/lang/Object;)Z"⟩ : MethodName)) hown (mvT hZ (hw _ (List.mem_of_getElem? (i := 16) rfl))) (mvT hZ (hw _ (List.mem_of_getElem? (i := 17) rfl))) (notFace_of_selects (args := #[]) (mvT hZ (hw _ (List.mem_of_getElem? (i := 19) rfl)))) (mvT hZ (hw _ (List.mem_of_getElem? (i := 19) rfl))) (mvT hZ (hw _ (List.mem_of_getElem? (i := 18) rfl))) (by decide) (backOf (W := 0) (own_rm6 l Z a0 hw [] b14 b12 zz5 z6 z9 z1 b1 x1 T15.heap n0 Zs F_b14_timeBinSeconds F_b14_hilbertBits F_b14_xzResolution F_b12_timeBinSeconds F_b12_hilbertBits F_b12_xzResolution E_b12) hZ (hw _ (List.mem_of_getElem? (i := 20) rfl)) (hw _ (List.mem_of_getElem? (i := 3) rfl)) (by decide) (by decide)) q26a q26c (g := (mkF m 242 #[.val (.int i0), .val (.int i1), .val (.int i2), .val (.int i3), .val (.int i4), .val (.int i5), .val (.int z1), .val (.int b1), .val (.int x1), .val (.int zz5), .val (.int z6), .val (.int kd), .val (.int z9), .val (.ref b12), .val (.ref b14), .val (.int z22)] [(.ref b12), (.ref b14)])) rfl (by rw [hml]; rfl) (Steps.refl _) (argsL := [(.ref b12)]) (rest := []) (lenOf own_pd0_2 rfl) rfl (by show 2 * 0 + _ ≤ _; exact Nat.le_of_eq rfl) (hb hby at_242) (fun _ _ => ⟨rfl, eq25, (by decide : 2 + 0 ≤ _), (by decide : 6 + 0 ≤ _)⟩)
                dsimp only [Pt.U, Pt.locs, Pt.cells, Pt.slots] at X26 l26 y26 z26 st26 hQ26
                subst l26 y26 z26
                obtain ⟨rfl, NQ26, eq26⟩ := hQ26
                have NF := Fr.app NF NQ26
                refine own_go (T' := T26) (g' := (mkF m 245 #[.val (.int i0), .val (.int i1), .val (.int i2), .val (.int i3), .val (.int i4), .val (.int i5), .val (.int z1), .val (.int b1), .val (.int x1), .val (.int zz5), .val (.int z6), .val (.int kd), .val (.int z9), .val (.ref b12), .val (.ref b14), .val (.int z22)] [(.int (if (zz5.toInt = z1.toInt ∧ z6.toInt = b1.toInt ∧ z9.toInt = x1.toInt) then (1 : Int32) else 0))])) (fun _ k => st26.trans k) ?_
                refine own_go (T' := T26) (g' := (mkF m 247 #[.val (.int i0), .val (.int i1), .val (.int i2), .val (.int i3), .val (.int i4), .val (.int i5), .val (.int z1), .val (.int b1), .val (.int x1), .val (.int zz5), .val (.int z6), .val (.int kd), .val (.int z9), .val (.ref b12), .val (.ref b14), .val (.int z22)] [(.int z22), (.int (if (zz5.toInt = z1.toInt ∧ z6.toInt = b1.toInt ∧ z9.toInt = x1.toInt) then (1 : Int32) else 0))])) (fun _ k => XS.iload X26.here hx rfl (hb hby at_245) rfl k) ?_
                have hq247 : (if (zz5.toInt = z1.toInt ∧ z6.toInt = b1.toInt ∧ z9.toInt = x1.toInt) then (1 : Int32) else 0) = z22 := by
                  have hh := own_ite (P := zz5.toInt = z1.toInt ∧ z6.toInt = b1.toInt ∧ z9.toInt = x1.toInt)
                  (try simp only [own_ln128, own_l0, own_l1, own_l2, own_l3, own_l29, own_l31, own_l127, own_l128, own_l256, own_l2147483647, Int32.lt_iff_toInt_lt, ← Int32.toInt_inj, Int64.lt_iff_toInt_lt, ← Int64.toInt_inj, and_true, true_and, and_false, false_and, or_true, true_or, or_false, false_or, not_true_eq_false, not_false_eq_true, ne_eq, true_implies, false_implies, implies_true] at hh ⊢) <;> omega
                refine own_go (T' := T26) (g' := (mkF m 250 #[.val (.int i0), .val (.int i1), .val (.int i2), .val (.int i3), .val (.int i4), .val (.int i5), .val (.int z1), .val (.int b1), .val (.int x1), .val (.int zz5), .val (.int z6), .val (.int kd), .val (.int z9), .val (.ref b12), .val (.ref b14), .val (.int z22)] [])) (fun _ k => XS.icmpNo X26.here hx rfl (hb hby at_247) rfl (teq hq247).2 k) ?_
                refine own_go (T' := T26) (g' := (mkF m 251 #[.val (.int i0), .val (.int i1), .val (.int i2), .val (.int i3), .val (.int i4), .val (.int i5), .val (.int z1), .val (.int b1), .val (.int x1), .val (.int zz5), .val (.int z6), .val (.int kd), .val (.int z9), .val (.ref b12), .val (.ref b14), .val (.int z22)] [(.int (1 : Int32))])) (fun _ k => XS.iconst X26.here hx rfl (hb hby at_250) k) ?_
                refine own_go (T' := T26) (g' := (mkF m 255 #[.val (.int i0), .val (.int i1), .val (.int i2), .val (.int i3), .val (.int i4), .val (.int i5), .val (.int z1), .val (.int b1), .val (.int x1), .val (.int zz5), .val (.int z6), .val (.int kd), .val (.int z9), .val (.ref b12), .val (.ref b14), .val (.int z22)] [(.int (1 : Int32))])) (fun _ k => XS.goto X26.here hx rfl (pc0 := 251) (pc' := 255) rfl (hb hby at_251) (by decide) (by decide) k) ?_
                refine own_ret X26 Bd.notSynchronized (some (.int (1 : Int32))) (fun h => by rw [Bd.returns] at h; cases h) (fun fs hr => retN X26 hx (t := .boolean) Bd.returns (by simp) (hb hby at_255) hr) ?_ (by decide) (by decide)
                show (own_Q0 Z i0 i1 i2 i3 i4 i5 ca cc bval h0 n0) (some (.int (1 : Int32))) T26.heap _
                rw [eq26]
                exact ⟨rfl, NF⟩
              by_cases c27 : z1 = zz5
              · refine own_go (T' := T16) (g' := (mkF m 205 #[.val (.int i0), .val (.int i1), .val (.int i2), .val (.int i3), .val (.int i4), .val (.int i5), .val (.int z1), .val (.int b1), .val (.int x1), .val (.int zz5), .val (.int z6), .val (.int kd), .val (.int z9), .val (.ref b12), .val (.ref b14), .unset] [])) (fun _ k => XS.icmpNo X16.here hx rfl (hb hby at_202) rfl (teq c27).2 k) ?_
                refine own_go (T' := T16) (g' := (mkF m 207 #[.val (.int i0), .val (.int i1), .val (.int i2), .val (.int i3), .val (.int i4), .val (.int i5), .val (.int z1), .val (.int b1), .val (.int x1), .val (.int zz5), .val (.int z6), .val (.int kd), .val (.int z9), .val (.ref b12), .val (.ref b14), .unset] [(.int b1)])) (fun _ k => XS.iload X16.here hx rfl (hb hby at_205) rfl k) ?_
                refine own_go (T' := T16) (g' := (mkF m 209 #[.val (.int i0), .val (.int i1), .val (.int i2), .val (.int i3), .val (.int i4), .val (.int i5), .val (.int z1), .val (.int b1), .val (.int x1), .val (.int zz5), .val (.int z6), .val (.int kd), .val (.int z9), .val (.ref b12), .val (.ref b14), .unset] [(.int z6), (.int b1)])) (fun _ k => XS.iload X16.here hx rfl (hb hby at_207) rfl k) ?_
                by_cases c28 : b1 = z6
                · refine own_go (T' := T16) (g' := (mkF m 212 #[.val (.int i0), .val (.int i1), .val (.int i2), .val (.int i3), .val (.int i4), .val (.int i5), .val (.int z1), .val (.int b1), .val (.int x1), .val (.int zz5), .val (.int z6), .val (.int kd), .val (.int z9), .val (.ref b12), .val (.ref b14), .unset] [])) (fun _ k => XS.icmpNo X16.here hx rfl (hb hby at_209) rfl (teq c28).2 k) ?_
                  refine own_go (T' := T16) (g' := (mkF m 214 #[.val (.int i0), .val (.int i1), .val (.int i2), .val (.int i3), .val (.int i4), .val (.int i5), .val (.int z1), .val (.int b1), .val (.int x1), .val (.int zz5), .val (.int z6), .val (.int kd), .val (.int z9), .val (.ref b12), .val (.ref b14), .unset] [(.int x1)])) (fun _ k => XS.iload X16.here hx rfl (hb hby at_212) rfl k) ?_
                  refine own_go (T' := T16) (g' := (mkF m 216 #[.val (.int i0), .val (.int i1), .val (.int i2), .val (.int i3), .val (.int i4), .val (.int i5), .val (.int z1), .val (.int b1), .val (.int x1), .val (.int zz5), .val (.int z6), .val (.int kd), .val (.int z9), .val (.ref b12), .val (.ref b14), .unset] [(.int z9), (.int x1)])) (fun _ k => XS.iload X16.here hx rfl (hb hby at_214) rfl k) ?_
                  by_cases c29 : x1 = z9
                  · refine own_go (T' := T16) (g' := (mkF m 219 #[.val (.int i0), .val (.int i1), .val (.int i2), .val (.int i3), .val (.int i4), .val (.int i5), .val (.int z1), .val (.int b1), .val (.int x1), .val (.int zz5), .val (.int z6), .val (.int kd), .val (.int z9), .val (.ref b12), .val (.ref b14), .unset] [])) (fun _ k => XS.icmpNo X16.here hx rfl (hb hby at_216) rfl (teq c29).2 k) ?_
                    refine own_go (T' := T16) (g' := (mkF m 220 #[.val (.int i0), .val (.int i1), .val (.int i2), .val (.int i3), .val (.int i4), .val (.int i5), .val (.int z1), .val (.int b1), .val (.int x1), .val (.int zz5), .val (.int z6), .val (.int kd), .val (.int z9), .val (.ref b12), .val (.ref b14), .unset] [(.int (1 : Int32))])) (fun _ k => XS.iconst X16.here hx rfl (hb hby at_219) k) ?_
                    refine own_go (T' := T16) (g' := (mkF m 224 #[.val (.int i0), .val (.int i1), .val (.int i2), .val (.int i3), .val (.int i4), .val (.int i5), .val (.int z1), .val (.int b1), .val (.int x1), .val (.int zz5), .val (.int z6), .val (.int kd), .val (.int z9), .val (.ref b12), .val (.ref b14), .unset] [(.int (1 : Int32))])) (fun _ k => XS.goto X16.here hx rfl (pc0 := 220) (pc' := 224) rfl (hb hby at_220) (by decide) (by decide) k) ?_
                    exact J24 _ (by (try simp only [own_ln128, own_l0, own_l1, own_l2, own_l3, own_l29, own_l31, own_l127, own_l128, own_l256, own_l2147483647, Int32.lt_iff_toInt_lt, ← Int32.toInt_inj, Int64.lt_iff_toInt_lt, ← Int64.toInt_inj, and_true, true_and, and_false, false_and, or_true, true_or, or_false, false_or, not_true_eq_false, not_false_eq_true, ne_eq, true_implies, false_implies, implies_true] at hz2 c4 hz7 hz10 c17 c19 c27 c28 c29 ⊢) <;> omega)
                  · refine own_go (T' := T16) (g' := (mkF m 223 #[.val (.int i0), .val (.int i1), .val (.int i2), .val (.int i3), .val (.int i4), .val (.int i5), .val (.int z1), .val (.int b1), .val (.int x1), .val (.int zz5), .val (.int z6), .val (.int kd), .val (.int z9), .val (.ref b12), .val (.ref b14), .unset] [])) (fun _ k => XS.icmpYes X16.here hx rfl (pc0 := 216) (pc' := 223) rfl (hb hby at_216) rfl (feq c29).2 (by decide) (by decide) k) ?_
                    refine own_go (T' := T16) (g' := (mkF m 224 #[.val (.int i0), .val (.int i1), .val (.int i2), .val (.int i3), .val (.int i4), .val (.int i5), .val (.int z1), .val (.int b1), .val (.int x1), .val (.int zz5), .val (.int z6), .val (.int kd), .val (.int z9), .val (.ref b12), .val (.ref b14), .unset] [(.int (0 : Int32))])) (fun _ k => XS.iconst X16.here hx rfl (hb hby at_223) k) ?_
                    exact J24 _ (by (try simp only [own_ln128, own_l0, own_l1, own_l2, own_l3, own_l29, own_l31, own_l127, own_l128, own_l256, own_l2147483647, Int32.lt_iff_toInt_lt, ← Int32.toInt_inj, Int64.lt_iff_toInt_lt, ← Int64.toInt_inj, and_true, true_and, and_false, false_and, or_true, true_or, or_false, false_or, not_true_eq_false, not_false_eq_true, ne_eq, true_implies, false_implies, implies_true] at hz2 c4 hz7 hz10 c17 c19 c27 c28 c29 ⊢) <;> omega)
                · refine own_go (T' := T16) (g' := (mkF m 223 #[.val (.int i0), .val (.int i1), .val (.int i2), .val (.int i3), .val (.int i4), .val (.int i5), .val (.int z1), .val (.int b1), .val (.int x1), .val (.int zz5), .val (.int z6), .val (.int kd), .val (.int z9), .val (.ref b12), .val (.ref b14), .unset] [])) (fun _ k => XS.icmpYes X16.here hx rfl (pc0 := 209) (pc' := 223) rfl (hb hby at_209) rfl (feq c28).2 (by decide) (by decide) k) ?_
                  refine own_go (T' := T16) (g' := (mkF m 224 #[.val (.int i0), .val (.int i1), .val (.int i2), .val (.int i3), .val (.int i4), .val (.int i5), .val (.int z1), .val (.int b1), .val (.int x1), .val (.int zz5), .val (.int z6), .val (.int kd), .val (.int z9), .val (.ref b12), .val (.ref b14), .unset] [(.int (0 : Int32))])) (fun _ k => XS.iconst X16.here hx rfl (hb hby at_223) k) ?_
                  exact J24 _ (by (try simp only [own_ln128, own_l0, own_l1, own_l2, own_l3, own_l29, own_l31, own_l127, own_l128, own_l256, own_l2147483647, Int32.lt_iff_toInt_lt, ← Int32.toInt_inj, Int64.lt_iff_toInt_lt, ← Int64.toInt_inj, and_true, true_and, and_false, false_and, or_true, true_or, or_false, false_or, not_true_eq_false, not_false_eq_true, ne_eq, true_implies, false_implies, implies_true] at hz2 c4 hz7 hz10 c17 c19 c27 c28 ⊢) <;> omega)
              · refine own_go (T' := T16) (g' := (mkF m 223 #[.val (.int i0), .val (.int i1), .val (.int i2), .val (.int i3), .val (.int i4), .val (.int i5), .val (.int z1), .val (.int b1), .val (.int x1), .val (.int zz5), .val (.int z6), .val (.int kd), .val (.int z9), .val (.ref b12), .val (.ref b14), .unset] [])) (fun _ k => XS.icmpYes X16.here hx rfl (pc0 := 202) (pc' := 223) rfl (hb hby at_202) rfl (feq c27).2 (by decide) (by decide) k) ?_
                refine own_go (T' := T16) (g' := (mkF m 224 #[.val (.int i0), .val (.int i1), .val (.int i2), .val (.int i3), .val (.int i4), .val (.int i5), .val (.int z1), .val (.int b1), .val (.int x1), .val (.int zz5), .val (.int z6), .val (.int kd), .val (.int z9), .val (.ref b12), .val (.ref b14), .unset] [(.int (0 : Int32))])) (fun _ k => XS.iconst X16.here hx rfl (hb hby at_223) k) ?_
                exact J24 _ (by (try simp only [own_ln128, own_l0, own_l1, own_l2, own_l3, own_l29, own_l31, own_l127, own_l128, own_l256, own_l2147483647, Int32.lt_iff_toInt_lt, ← Int32.toInt_inj, Int64.lt_iff_toInt_lt, ← Int64.toInt_inj, and_true, true_and, and_false, false_and, or_true, true_or, or_false, false_or, not_true_eq_false, not_false_eq_true, ne_eq, true_implies, false_implies, implies_true] at hz2 c4 hz7 hz10 c17 c19 c27 ⊢) <;> omega)
        by_cases c30 : (i5 &&& (1 : Int32)) = (0 : Int32)
        · refine own_go (T' := T5) (g' := (mkF m 99 #[.val (.int i0), .val (.int i1), .val (.int i2), .val (.int i3), .val (.int i4), .val (.int i5), .val (.int z1), .val (.int b1), .val (.int x1), .val (.int zz5), .val (.int z6), .val (.int kd), .unset, .unset, .unset, .unset] [])) (fun _ k => XS.ifYes X5.here hx rfl (pc0 := 91) (pc' := 99) rfl (hb hby at_91) rfl ((if0 _ _).trans (teq c30).1) (by decide) (by decide) k) ?_
          refine own_go (T' := T5) (g' := (mkF m 101 #[.val (.int i0), .val (.int i1), .val (.int i2), .val (.int i3), .val (.int i4), .val (.int i5), .val (.int z1), .val (.int b1), .val (.int x1), .val (.int zz5), .val (.int z6), .val (.int kd), .unset, .unset, .unset, .unset] [(.int i5)])) (fun _ k => XS.iload X5.here hx rfl (hb hby at_99) rfl k) ?_
          refine own_go (T' := T5) (g' := (mkF m 102 #[.val (.int i0), .val (.int i1), .val (.int i2), .val (.int i3), .val (.int i4), .val (.int i5), .val (.int z1), .val (.int b1), .val (.int x1), .val (.int zz5), .val (.int z6), .val (.int kd), .unset, .unset, .unset, .unset] [(.int (3 : Int32)), (.int i5)])) (fun _ k => XS.iconst X5.here hx rfl (hb hby at_101) k) ?_
          refine own_go (T' := T5) (g' := (mkF m 103 #[.val (.int i0), .val (.int i1), .val (.int i2), .val (.int i3), .val (.int i4), .val (.int i5), .val (.int z1), .val (.int b1), .val (.int x1), .val (.int zz5), .val (.int z6), .val (.int kd), .unset, .unset, .unset, .unset] [(.int ((i5.toUInt32 >>> ((3 : Int32) &&& 31).toUInt32).toInt32))])) (fun _ k => XS.iushr X5.here hx rfl (hb hby at_102) rfl k) ?_
          refine own_go (T' := T5) (g' := (mkF m 105 #[.val (.int i0), .val (.int i1), .val (.int i2), .val (.int i3), .val (.int i4), .val (.int i5), .val (.int z1), .val (.int b1), .val (.int x1), .val (.int zz5), .val (.int z6), .val (.int kd), .unset, .unset, .unset, .unset] [(.int (29 : Int32)), (.int ((i5.toUInt32 >>> ((3 : Int32) &&& 31).toUInt32).toInt32))])) (fun _ k => XS.bipush X5.here hx rfl (hb hby at_103) k) ?_
          refine own_go (T' := T5) (g' := (mkF m 106 #[.val (.int i0), .val (.int i1), .val (.int i2), .val (.int i3), .val (.int i4), .val (.int i5), .val (.int z1), .val (.int b1), .val (.int x1), .val (.int zz5), .val (.int z6), .val (.int kd), .unset, .unset, .unset, .unset] [(.int (((i5.toUInt32 >>> ((3 : Int32) &&& 31).toUInt32).toInt32) % (29 : Int32)))])) (fun _ k => iremM X5 hx rfl (hb hby at_105) rfl (by decide) k) ?_
          refine own_go (T' := T5) (g' := (mkF m 107 #[.val (.int i0), .val (.int i1), .val (.int i2), .val (.int i3), .val (.int i4), .val (.int i5), .val (.int z1), .val (.int b1), .val (.int x1), .val (.int zz5), .val (.int z6), .val (.int kd), .unset, .unset, .unset, .unset] [(.int (1 : Int32)), (.int (((i5.toUInt32 >>> ((3 : Int32) &&& 31).toUInt32).toInt32) % (29 : Int32)))])) (fun _ k => XS.iconst X5.here hx rfl (hb hby at_106) k) ?_
          refine own_go (T' := T5) (g' := (mkF m 108 #[.val (.int i0), .val (.int i1), .val (.int i2), .val (.int i3), .val (.int i4), .val (.int i5), .val (.int z1), .val (.int b1), .val (.int x1), .val (.int zz5), .val (.int z6), .val (.int kd), .unset, .unset, .unset, .unset] [(.int ((((i5.toUInt32 >>> ((3 : Int32) &&& 31).toUInt32).toInt32) % (29 : Int32)) + (1 : Int32)))])) (fun _ k => XS.iadd X5.here hx rfl (hb hby at_107) rfl k) ?_
          exact J11 _ (by (try simp only [own_ln128, own_l0, own_l1, own_l2, own_l3, own_l29, own_l31, own_l127, own_l128, own_l256, own_l2147483647, Int32.lt_iff_toInt_lt, ← Int32.toInt_inj, Int64.lt_iff_toInt_lt, ← Int64.toInt_inj, and_true, true_and, and_false, false_and, or_true, true_or, or_false, false_or, not_true_eq_false, not_false_eq_true, ne_eq, true_implies, false_implies, implies_true] at hz2 c4 hz7 c30 ⊢) <;> omega)
        · refine own_go (T' := T5) (g' := (mkF m 94 #[.val (.int i0), .val (.int i1), .val (.int i2), .val (.int i3), .val (.int i4), .val (.int i5), .val (.int z1), .val (.int b1), .val (.int x1), .val (.int zz5), .val (.int z6), .val (.int kd), .unset, .unset, .unset, .unset] [])) (fun _ k => XS.ifNo X5.here hx rfl (hb hby at_91) rfl ((if0 _ _).trans (feq c30).1) k) ?_
          refine own_go (T' := T5) (g' := (mkF m 96 #[.val (.int i0), .val (.int i1), .val (.int i2), .val (.int i3), .val (.int i4), .val (.int i5), .val (.int z1), .val (.int b1), .val (.int x1), .val (.int zz5), .val (.int z6), .val (.int kd), .unset, .unset, .unset, .unset] [(.int x1)])) (fun _ k => XS.iload X5.here hx rfl (hb hby at_94) rfl k) ?_
          refine own_go (T' := T5) (g' := (mkF m 108 #[.val (.int i0), .val (.int i1), .val (.int i2), .val (.int i3), .val (.int i4), .val (.int i5), .val (.int z1), .val (.int b1), .val (.int x1), .val (.int zz5), .val (.int z6), .val (.int kd), .unset, .unset, .unset, .unset] [(.int x1)])) (fun _ k => XS.goto X5.here hx rfl (pc0 := 96) (pc' := 108) rfl (hb hby at_96) (by decide) (by decide) k) ?_
          exact J11 _ (by (try simp only [own_ln128, own_l0, own_l1, own_l2, own_l3, own_l29, own_l31, own_l127, own_l128, own_l256, own_l2147483647, Int32.lt_iff_toInt_lt, ← Int32.toInt_inj, Int64.lt_iff_toInt_lt, ← Int64.toInt_inj, and_true, true_and, and_false, false_and, or_true, true_or, or_false, false_or, not_true_eq_false, not_false_eq_true, ne_eq, true_implies, false_implies, implies_true] at hz2 c4 hz7 c30 ⊢) <;> omega)
      by_cases c31 : (i4 &&& (1 : Int32)) = (0 : Int32)
      · refine own_go (T' := T5) (g' := (mkF m 68 #[.val (.int i0), .val (.int i1), .val (.int i2), .val (.int i3), .val (.int i4), .val (.int i5), .val (.int z1), .val (.int b1), .val (.int x1), .val (.int zz5), .unset, .unset, .unset, .unset, .unset, .unset] [])) (fun _ k => XS.ifYes X5.here hx rfl (pc0 := 60) (pc' := 68) rfl (hb hby at_60) rfl ((if0 _ _).trans (teq c31).1) (by decide) (by decide) k) ?_
        refine own_go (T' := T5) (g' := (mkF m 70 #[.val (.int i0), .val (.int i1), .val (.int i2), .val (.int i3), .val (.int i4), .val (.int i5), .val (.int z1), .val (.int b1), .val (.int x1), .val (.int zz5), .unset, .unset, .unset, .unset, .unset, .unset] [(.int i4)])) (fun _ k => XS.iload X5.here hx rfl (hb hby at_68) rfl k) ?_
        refine own_go (T' := T5) (g' := (mkF m 71 #[.val (.int i0), .val (.int i1), .val (.int i2), .val (.int i3), .val (.int i4), .val (.int i5), .val (.int z1), .val (.int b1), .val (.int x1), .val (.int zz5), .unset, .unset, .unset, .unset, .unset, .unset] [(.int (1 : Int32)), (.int i4)])) (fun _ k => XS.iconst X5.here hx rfl (hb hby at_70) k) ?_
        refine own_go (T' := T5) (g' := (mkF m 72 #[.val (.int i0), .val (.int i1), .val (.int i2), .val (.int i3), .val (.int i4), .val (.int i5), .val (.int z1), .val (.int b1), .val (.int x1), .val (.int zz5), .unset, .unset, .unset, .unset, .unset, .unset] [(.int ((i4.toUInt32 >>> ((1 : Int32) &&& 31).toUInt32).toInt32))])) (fun _ k => XS.iushr X5.here hx rfl (hb hby at_71) rfl k) ?_
        refine own_go (T' := T5) (g' := (mkF m 74 #[.val (.int i0), .val (.int i1), .val (.int i2), .val (.int i3), .val (.int i4), .val (.int i5), .val (.int z1), .val (.int b1), .val (.int x1), .val (.int zz5), .unset, .unset, .unset, .unset, .unset, .unset] [(.int (31 : Int32)), (.int ((i4.toUInt32 >>> ((1 : Int32) &&& 31).toUInt32).toInt32))])) (fun _ k => XS.bipush X5.here hx rfl (hb hby at_72) k) ?_
        refine own_go (T' := T5) (g' := (mkF m 75 #[.val (.int i0), .val (.int i1), .val (.int i2), .val (.int i3), .val (.int i4), .val (.int i5), .val (.int z1), .val (.int b1), .val (.int x1), .val (.int zz5), .unset, .unset, .unset, .unset, .unset, .unset] [(.int (((i4.toUInt32 >>> ((1 : Int32) &&& 31).toUInt32).toInt32) % (31 : Int32)))])) (fun _ k => iremM X5 hx rfl (hb hby at_74) rfl (by decide) k) ?_
        refine own_go (T' := T5) (g' := (mkF m 76 #[.val (.int i0), .val (.int i1), .val (.int i2), .val (.int i3), .val (.int i4), .val (.int i5), .val (.int z1), .val (.int b1), .val (.int x1), .val (.int zz5), .unset, .unset, .unset, .unset, .unset, .unset] [(.int (1 : Int32)), (.int (((i4.toUInt32 >>> ((1 : Int32) &&& 31).toUInt32).toInt32) % (31 : Int32)))])) (fun _ k => XS.iconst X5.here hx rfl (hb hby at_75) k) ?_
        refine own_go (T' := T5) (g' := (mkF m 77 #[.val (.int i0), .val (.int i1), .val (.int i2), .val (.int i3), .val (.int i4), .val (.int i5), .val (.int z1), .val (.int b1), .val (.int x1), .val (.int zz5), .unset, .unset, .unset, .unset, .unset, .unset] [(.int ((((i4.toUInt32 >>> ((1 : Int32) &&& 31).toUInt32).toInt32) % (31 : Int32)) + (1 : Int32)))])) (fun _ k => XS.iadd X5.here hx rfl (hb hby at_76) rfl k) ?_
        exact J8 _ (by (try simp only [own_ln128, own_l0, own_l1, own_l2, own_l3, own_l29, own_l31, own_l127, own_l128, own_l256, own_l2147483647, Int32.lt_iff_toInt_lt, ← Int32.toInt_inj, Int64.lt_iff_toInt_lt, ← Int64.toInt_inj, and_true, true_and, and_false, false_and, or_true, true_or, or_false, false_or, not_true_eq_false, not_false_eq_true, ne_eq, true_implies, false_implies, implies_true] at hz2 c4 c31 ⊢) <;> omega)
      · refine own_go (T' := T5) (g' := (mkF m 63 #[.val (.int i0), .val (.int i1), .val (.int i2), .val (.int i3), .val (.int i4), .val (.int i5), .val (.int z1), .val (.int b1), .val (.int x1), .val (.int zz5), .unset, .unset, .unset, .unset, .unset, .unset] [])) (fun _ k => XS.ifNo X5.here hx rfl (hb hby at_60) rfl ((if0 _ _).trans (feq c31).1) k) ?_
        refine own_go (T' := T5) (g' := (mkF m 65 #[.val (.int i0), .val (.int i1), .val (.int i2), .val (.int i3), .val (.int i4), .val (.int i5), .val (.int z1), .val (.int b1), .val (.int x1), .val (.int zz5), .unset, .unset, .unset, .unset, .unset, .unset] [(.int b1)])) (fun _ k => XS.iload X5.here hx rfl (hb hby at_63) rfl k) ?_
        refine own_go (T' := T5) (g' := (mkF m 77 #[.val (.int i0), .val (.int i1), .val (.int i2), .val (.int i3), .val (.int i4), .val (.int i5), .val (.int z1), .val (.int b1), .val (.int x1), .val (.int zz5), .unset, .unset, .unset, .unset, .unset, .unset] [(.int b1)])) (fun _ k => XS.goto X5.here hx rfl (pc0 := 65) (pc' := 77) rfl (hb hby at_65) (by decide) (by decide) k) ?_
        exact J8 _ (by (try simp only [own_ln128, own_l0, own_l1, own_l2, own_l3, own_l29, own_l31, own_l127, own_l128, own_l256, own_l2147483647, Int32.lt_iff_toInt_lt, ← Int32.toInt_inj, Int64.lt_iff_toInt_lt, ← Int64.toInt_inj, and_true, true_and, and_false, false_and, or_true, true_or, or_false, false_or, not_true_eq_false, not_false_eq_true, ne_eq, true_implies, false_implies, implies_true] at hz2 c4 c31 ⊢) <;> omega)
    · refine own_go (T' := s₁) (g' := (mkF m 42 #[.val (.int i0), .val (.int i1), .val (.int i2), .val (.int i3), .val (.int i4), .val (.int i5), .val (.int z1), .val (.int b1), .val (.int x1), .unset, .unset, .unset, .unset, .unset, .unset, .unset] [])) (fun _ k => XS.ifNo X0.here hx rfl (hb hby at_39) rfl ((if0 _ _).trans (feq c4).1) k) ?_
      refine own_go (T' := s₁) (g' := (mkF m 44 #[.val (.int i0), .val (.int i1), .val (.int i2), .val (.int i3), .val (.int i4), .val (.int i5), .val (.int z1), .val (.int b1), .val (.int x1), .unset, .unset, .unset, .unset, .unset, .unset, .unset] [(.int z1)])) (fun _ k => XS.iload X0.here hx rfl (hb hby at_42) rfl k) ?_
      refine own_go (T' := s₁) (g' := (mkF m 54 #[.val (.int i0), .val (.int i1), .val (.int i2), .val (.int i3), .val (.int i4), .val (.int i5), .val (.int z1), .val (.int b1), .val (.int x1), .unset, .unset, .unset, .unset, .unset, .unset, .unset] [(.int z1)])) (fun _ k => XS.goto X0.here hx rfl (pc0 := 44) (pc' := 54) rfl (hb hby at_44) (by decide) (by decide) k) ?_
      refine own_go (T' := s₁) (g' := (mkF m 56 #[.val (.int i0), .val (.int i1), .val (.int i2), .val (.int i3), .val (.int i4), .val (.int i5), .val (.int z1), .val (.int b1), .val (.int x1), .val (.int z1), .unset, .unset, .unset, .unset, .unset, .unset] [])) (fun _ k => XS.istore X0.here hx rfl (hb hby at_54) rfl (l' := #[.val (.int i0), .val (.int i1), .val (.int i2), .val (.int i3), .val (.int i4), .val (.int i5), .val (.int z1), .val (.int b1), .val (.int x1), .val (.int z1), .unset, .unset, .unset, .unset, .unset, .unset]) rfl k) ?_
      refine own_go (T' := s₁) (g' := (mkF m 58 #[.val (.int i0), .val (.int i1), .val (.int i2), .val (.int i3), .val (.int i4), .val (.int i5), .val (.int z1), .val (.int b1), .val (.int x1), .val (.int z1), .unset, .unset, .unset, .unset, .unset, .unset] [(.int i4)])) (fun _ k => XS.iload X0.here hx rfl (hb hby at_56) rfl k) ?_
      refine own_go (T' := s₁) (g' := (mkF m 59 #[.val (.int i0), .val (.int i1), .val (.int i2), .val (.int i3), .val (.int i4), .val (.int i5), .val (.int z1), .val (.int b1), .val (.int x1), .val (.int z1), .unset, .unset, .unset, .unset, .unset, .unset] [(.int (1 : Int32)), (.int i4)])) (fun _ k => XS.iconst X0.here hx rfl (hb hby at_58) k) ?_
      refine own_go (T' := s₁) (g' := (mkF m 60 #[.val (.int i0), .val (.int i1), .val (.int i2), .val (.int i3), .val (.int i4), .val (.int i5), .val (.int z1), .val (.int b1), .val (.int x1), .val (.int z1), .unset, .unset, .unset, .unset, .unset, .unset] [(.int (i4 &&& (1 : Int32)))])) (fun _ k => XS.iand X0.here hx rfl (hb hby at_59) rfl k) ?_
      have J34 : ∀ (z32 : Int32), (1 ≤ z32.toInt ∧ z32.toInt ≤ 31) → own_Dn p e below s (own_Q0 Z i0 i1 i2 i3 i4 i5 ca cc bval h0 n0) room_1.cells room_1.slots s₁ (mkF m 77 #[.val (.int i0), .val (.int i1), .val (.int i2), .val (.int i3), .val (.int i4), .val (.int i5), .val (.int z1), .val (.int b1), .val (.int x1), .val (.int z1), .unset, .unset, .unset, .unset, .unset, .unset] [(.int z32)]) := by
        intro z32 hz33
        refine own_go (T' := s₁) (g' := (mkF m 79 #[.val (.int i0), .val (.int i1), .val (.int i2), .val (.int i3), .val (.int i4), .val (.int i5), .val (.int z1), .val (.int b1), .val (.int x1), .val (.int z1), .val (.int z32), .unset, .unset, .unset, .unset, .unset] [])) (fun _ k => XS.istore X0.here hx rfl (hb hby at_77) rfl (l' := #[.val (.int i0), .val (.int i1), .val (.int i2), .val (.int i3), .val (.int i4), .val (.int i5), .val (.int z1), .val (.int b1), .val (.int x1), .val (.int z1), .val (.int z32), .unset, .unset, .unset, .unset, .unset]) rfl k) ?_
        refine own_go (T' := s₁) (g' := (mkF m 81 #[.val (.int i0), .val (.int i1), .val (.int i2), .val (.int i3), .val (.int i4), .val (.int i5), .val (.int z1), .val (.int b1), .val (.int x1), .val (.int z1), .val (.int z32), .unset, .unset, .unset, .unset, .unset] [(.int i5)])) (fun _ k => XS.iload X0.here hx rfl (hb hby at_79) rfl k) ?_
        refine own_go (T' := s₁) (g' := (mkF m 82 #[.val (.int i0), .val (.int i1), .val (.int i2), .val (.int i3), .val (.int i4), .val (.int i5), .val (.int z1), .val (.int b1), .val (.int x1), .val (.int z1), .val (.int z32), .unset, .unset, .unset, .unset, .unset] [(.int (1 : Int32)), (.int i5)])) (fun _ k => XS.iconst X0.here hx rfl (hb hby at_81) k) ?_
        refine own_go (T' := s₁) (g' := (mkF m 83 #[.val (.int i0), .val (.int i1), .val (.int i2), .val (.int i3), .val (.int i4), .val (.int i5), .val (.int z1), .val (.int b1), .val (.int x1), .val (.int z1), .val (.int z32), .unset, .unset, .unset, .unset, .unset] [(.int ((i5.toUInt32 >>> ((1 : Int32) &&& 31).toUInt32).toInt32))])) (fun _ k => XS.iushr X0.here hx rfl (hb hby at_82) rfl k) ?_
        refine own_go (T' := s₁) (g' := (mkF m 84 #[.val (.int i0), .val (.int i1), .val (.int i2), .val (.int i3), .val (.int i4), .val (.int i5), .val (.int z1), .val (.int b1), .val (.int x1), .val (.int z1), .val (.int z32), .unset, .unset, .unset, .unset, .unset] [(.int (3 : Int32)), (.int ((i5.toUInt32 >>> ((1 : Int32) &&& 31).toUInt32).toInt32))])) (fun _ k => XS.iconst X0.here hx rfl (hb hby at_83) k) ?_
        refine own_go (T' := s₁) (g' := (mkF m 85 #[.val (.int i0), .val (.int i1), .val (.int i2), .val (.int i3), .val (.int i4), .val (.int i5), .val (.int z1), .val (.int b1), .val (.int x1), .val (.int z1), .val (.int z32), .unset, .unset, .unset, .unset, .unset] [(.int (((i5.toUInt32 >>> ((1 : Int32) &&& 31).toUInt32).toInt32) &&& (3 : Int32)))])) (fun _ k => XS.iand X0.here hx rfl (hb hby at_84) rfl k) ?_
        refine own_go (T' := s₁) (g' := (mkF m 87 #[.val (.int i0), .val (.int i1), .val (.int i2), .val (.int i3), .val (.int i4), .val (.int i5), .val (.int z1), .val (.int b1), .val (.int x1), .val (.int z1), .val (.int z32), .val (.int (((i5.toUInt32 >>> ((1 : Int32) &&& 31).toUInt32).toInt32) &&& (3 : Int32))), .unset, .unset, .unset, .unset] [])) (fun _ k => XS.istore X0.here hx rfl (hb hby at_85) rfl (l' := #[.val (.int i0), .val (.int i1), .val (.int i2), .val (.int i3), .val (.int i4), .val (.int i5), .val (.int z1), .val (.int b1), .val (.int x1), .val (.int z1), .val (.int z32), .val (.int (((i5.toUInt32 >>> ((1 : Int32) &&& 31).toUInt32).toInt32) &&& (3 : Int32))), .unset, .unset, .unset, .unset]) rfl k) ?_
        generalize e_kd : (((i5.toUInt32 >>> ((1 : Int32) &&& 31).toUInt32).toInt32) &&& (3 : Int32)) = kd at *
        refine own_go (T' := s₁) (g' := (mkF m 89 #[.val (.int i0), .val (.int i1), .val (.int i2), .val (.int i3), .val (.int i4), .val (.int i5), .val (.int z1), .val (.int b1), .val (.int x1), .val (.int z1), .val (.int z32), .val (.int kd), .unset, .unset, .unset, .unset] [(.int i5)])) (fun _ k => XS.iload X0.here hx rfl (hb hby at_87) rfl k) ?_
        refine own_go (T' := s₁) (g' := (mkF m 90 #[.val (.int i0), .val (.int i1), .val (.int i2), .val (.int i3), .val (.int i4), .val (.int i5), .val (.int z1), .val (.int b1), .val (.int x1), .val (.int z1), .val (.int z32), .val (.int kd), .unset, .unset, .unset, .unset] [(.int (1 : Int32)), (.int i5)])) (fun _ k => XS.iconst X0.here hx rfl (hb hby at_89) k) ?_
        refine own_go (T' := s₁) (g' := (mkF m 91 #[.val (.int i0), .val (.int i1), .val (.int i2), .val (.int i3), .val (.int i4), .val (.int i5), .val (.int z1), .val (.int b1), .val (.int x1), .val (.int z1), .val (.int z32), .val (.int kd), .unset, .unset, .unset, .unset] [(.int (i5 &&& (1 : Int32)))])) (fun _ k => XS.iand X0.here hx rfl (hb hby at_90) rfl k) ?_
        have J37 : ∀ (z35 : Int32), (1 ≤ z35.toInt ∧ z35.toInt ≤ 29) → own_Dn p e below s (own_Q0 Z i0 i1 i2 i3 i4 i5 ca cc bval h0 n0) room_1.cells room_1.slots s₁ (mkF m 108 #[.val (.int i0), .val (.int i1), .val (.int i2), .val (.int i3), .val (.int i4), .val (.int i5), .val (.int z1), .val (.int b1), .val (.int x1), .val (.int z1), .val (.int z32), .val (.int kd), .unset, .unset, .unset, .unset] [(.int z35)]) := by
          intro z35 hz36
          refine own_go (T' := s₁) (g' := (mkF m 110 #[.val (.int i0), .val (.int i1), .val (.int i2), .val (.int i3), .val (.int i4), .val (.int i5), .val (.int z1), .val (.int b1), .val (.int x1), .val (.int z1), .val (.int z32), .val (.int kd), .val (.int z35), .unset, .unset, .unset] [])) (fun _ k => XS.istore X0.here hx rfl (hb hby at_108) rfl (l' := #[.val (.int i0), .val (.int i1), .val (.int i2), .val (.int i3), .val (.int i4), .val (.int i5), .val (.int z1), .val (.int b1), .val (.int x1), .val (.int z1), .val (.int z32), .val (.int kd), .val (.int z35), .unset, .unset, .unset]) rfl k) ?_
          obtain ⟨T38, h38, X38, e38, E38, A38, D38, -, st38⟩ := newO X0 hx hZ hown (hw _ (List.mem_of_getElem? (i := 1) rfl)) (hw _ (List.mem_of_getElem? (i := 2) rfl)) (hw _ (List.mem_of_getElem? (i := 3) rfl)) e0 (g := (mkF m 110 #[.val (.int i0), .val (.int i1), .val (.int i2), .val (.int i3), .val (.int i4), .val (.int i5), .val (.int z1), .val (.int b1), .val (.int x1), .val (.int z1), .val (.int z32), .val (.int kd), .val (.int z35), .unset, .unset, .unset] [])) rfl (hb hby at_110) (by decide) (by decide)
          obtain ⟨b38, g38⟩ : ∃ z, z = h0.size := ⟨_, rfl⟩
          rw [← g38] at A38 D38 st38
          have g_b38 : n0 ≤ b38 := Nat.le_trans Zs (Nat.le_of_eq g38.symm)
          have OL := OL.ext E38
          have Zs := Nat.le_trans Zs E38.1
          have E_b38 := A38
          have F_b38_timeBinSeconds : Fld Z h38 b38 "com/example/godwit/godwit/StoreSettings" "timeBinSeconds" "I" (.int (0 : Int32)) := D38 (Or.inr (hw _ (List.mem_of_getElem? (i := 11) rfl))) (ty := .int) (by decide)
          have F_b38_hilbertBits : Fld Z h38 b38 "com/example/godwit/godwit/StoreSettings" "hilbertBits" "I" (.int (0 : Int32)) := D38 (Or.inr (hw _ (List.mem_of_getElem? (i := 13) rfl))) (ty := .int) (by decide)
          have F_b38_xzResolution : Fld Z h38 b38 "com/example/godwit/godwit/StoreSettings" "xzResolution" "I" (.int (0 : Int32)) := D38 (Or.inr (hw _ (List.mem_of_getElem? (i := 15) rfl))) (ty := .int) (by decide)
          refine own_go (T' := T38) (g' := (mkF m 113 #[.val (.int i0), .val (.int i1), .val (.int i2), .val (.int i3), .val (.int i4), .val (.int i5), .val (.int z1), .val (.int b1), .val (.int x1), .val (.int z1), .val (.int z32), .val (.int kd), .val (.int z35), .unset, .unset, .unset] [(.ref b38)])) (fun _ k => st38 _ k) ?_
          refine own_go (T' := T38) (g' := (mkF m 114 #[.val (.int i0), .val (.int i1), .val (.int i2), .val (.int i3), .val (.int i4), .val (.int i5), .val (.int z1), .val (.int b1), .val (.int x1), .val (.int z1), .val (.int z32), .val (.int kd), .val (.int z35), .unset, .unset, .unset] [(.ref b38), (.ref b38)])) (fun _ k => XS.dup X38.here hx rfl (hb hby at_113) rfl rfl k) ?_
          refine own_go (T' := T38) (g' := (mkF m 116 #[.val (.int i0), .val (.int i1), .val (.int i2), .val (.int i3), .val (.int i4), .val (.int i5), .val (.int z1), .val (.int b1), .val (.int x1), .val (.int z1), .val (.int z32), .val (.int kd), .val (.int z35), .unset, .unset, .unset] [(.int z1), (.ref b38), (.ref b38)])) (fun _ k => XS.iload X38.here hx rfl (hb hby at_114) rfl k) ?_
          refine own_go (T' := T38) (g' := (mkF m 118 #[.val (.int i0), .val (.int i1), .val (.int i2), .val (.int i3), .val (.int i4), .val (.int i5), .val (.int z1), .val (.int b1), .val (.int x1), .val (.int z1), .val (.int z32), .val (.int kd), .val (.int z35), .unset, .unset, .unset] [(.int b1), (.int z1), (.ref b38), (.ref b38)])) (fun _ k => XS.iload X38.here hx rfl (hb hby at_116) rfl k) ?_
          refine own_go (T' := T38) (g' := (mkF m 120 #[.val (.int i0), .val (.int i1), .val (.int i2), .val (.int i3), .val (.int i4), .val (.int i5), .val (.int z1), .val (.int b1), .val (.int x1), .val (.int z1), .val (.int z32), .val (.int kd), .val (.int z35), .unset, .unset, .unset] [(.int x1), (.int b1), (.int z1), (.ref b38), (.ref b38)])) (fun _ k => XS.iload X38.here hx rfl (hb hby at_118) rfl k) ?_
          obtain ⟨_, _, ⟨T39, L39, k39, n39⟩, -, X39, ⟨Lc39, hQ39, l39, y39, z39⟩, st39⟩ := X38.specialBack hx (y := (⟨"com/example/godwit/godwit/StoreSettings", "<init>", "(III)V"⟩ : MethodName)) rfl hown (mvT hZ (hw _ (List.mem_of_getElem? (i := 4) rfl))) (mvT hZ (hw _ (List.mem_of_getElem? (i := 5) rfl))) (mvT hZ (hw _ (List.mem_of_getElem? (i := 6) rfl))) (by decide) (backOf (W := 1) (own_rm2 l Z a0 hw [] b38 z1 b1 x1 h38 n0 Zs F_b38_timeBinSeconds F_b38_hilbertBits F_b38_xzResolution E_b38 g_b38 (by omega)) hZ (hw _ (List.mem_of_getElem? (i := 6) rfl)) (hw _ (List.mem_of_getElem? (i := 3) rfl)) (by decide) (by decide)) (g := (mkF m 120 #[.val (.int i0), .val (.int i1), .val (.int i2), .val (.int i3), .val (.int i4), .val (.int i5), .val (.int z1), .val (.int b1), .val (.int x1), .val (.int z1), .val (.int z32), .val (.int kd), .val (.int z35), .unset, .unset, .unset] [(.int x1), (.int b1), (.int z1), (.ref b38), (.ref b38)])) rfl (by rw [hml]; rfl) (Steps.refl _) (a := b38) (argsL := [(.int z1), (.int b1), (.int x1)]) (rest := [(.ref b38)]) (lenOf own_pd0_1 rfl) rfl (by show 2 * 0 + _ ≤ _; exact Nat.le_of_eq rfl) (hb hby at_120) (fun _ _ => ⟨rfl, e38, (by decide : 1 + 0 ≤ _), (by decide : 3 + 0 ≤ _)⟩)
          dsimp only [Pt.U, Pt.locs, Pt.cells, Pt.slots] at X39 l39 y39 z39 st39 hQ39
          subst l39 y39 z39
          obtain ⟨rfl, NQ39, K39, E_b38, F_b38_timeBinSeconds, F_b38_hilbertBits, F_b38_xzResolution⟩ := hQ39
          have NF := Fr.app NF NQ39
          have OL := OL.keep K39 (allS g_b38 all0)
          have Zs := Nat.le_trans Zs K39.1
          refine own_go (T' := T39) (g' := (mkF m 123 #[.val (.int i0), .val (.int i1), .val (.int i2), .val (.int i3), .val (.int i4), .val (.int i5), .val (.int z1), .val (.int b1), .val (.int x1), .val (.int z1), .val (.int z32), .val (.int kd), .val (.int z35), .unset, .unset, .unset] [(.ref b38)])) (fun _ k => st39.trans k) ?_
          refine own_go (T' := T39) (g' := (mkF m 125 #[.val (.int i0), .val (.int i1), .val (.int i2), .val (.int i3), .val (.int i4), .val (.int i5), .val (.int z1), .val (.int b1), .val (.int x1), .val (.int z1), .val (.int z32), .val (.int kd), .val (.int z35), .val (.ref b38), .unset, .unset] [])) (fun _ k => XS.astore X39.here hx rfl (hb hby at_123) rfl rfl (l' := #[.val (.int i0), .val (.int i1), .val (.int i2), .val (.int i3), .val (.int i4), .val (.int i5), .val (.int z1), .val (.int b1), .val (.int x1), .val (.int z1), .val (.int z32), .val (.int kd), .val (.int z35), .val (.ref b38), .unset, .unset]) rfl k) ?_
          obtain ⟨T40, h40, X40, e40, E40, A40, D40, -, st40⟩ := newO X39 hx hZ hown (hw _ (List.mem_of_getElem? (i := 1) rfl)) (hw _ (List.mem_of_getElem? (i := 2) rfl)) (hw _ (List.mem_of_getElem? (i := 3) rfl)) rfl (g := (mkF m 125 #[.val (.int i0), .val (.int i1), .val (.int i2), .val (.int i3), .val (.int i4), .val (.int i5), .val (.int z1), .val (.int b1), .val (.int x1), .val (.int z1), .val (.int z32), .val (.int kd), .val (.int z35), .val (.ref b38), .unset, .unset] [])) rfl (hb hby at_125) (by decide) (by decide)
          obtain ⟨b40, g40⟩ : ∃ z, z = T39.heap.size := ⟨_, rfl⟩
          rw [← g40] at A40 D40 st40
          have ne_b38_b40 : b38 ≠ b40 := Nat.ne_of_lt (Nat.lt_of_lt_of_le E_b38.lt (Nat.le_of_eq g40.symm))
          have g_b40 : n0 ≤ b40 := Nat.le_trans Zs (Nat.le_of_eq g40.symm)
          have OL := OL.ext E40
          have E_b38 := E_b38.ext E40
          have F_b38_timeBinSeconds := F_b38_timeBinSeconds.ext E40
          have F_b38_hilbertBits := F_b38_hilbertBits.ext E40
          have F_b38_xzResolution := F_b38_xzResolution.ext E40
          have Zs := Nat.le_trans Zs E40.1
          have E_b40 := A40
          have F_b40_timeBinSeconds : Fld Z h40 b40 "com/example/godwit/godwit/StoreSettings" "timeBinSeconds" "I" (.int (0 : Int32)) := D40 (Or.inr (hw _ (List.mem_of_getElem? (i := 11) rfl))) (ty := .int) (by decide)
          have F_b40_hilbertBits : Fld Z h40 b40 "com/example/godwit/godwit/StoreSettings" "hilbertBits" "I" (.int (0 : Int32)) := D40 (Or.inr (hw _ (List.mem_of_getElem? (i := 13) rfl))) (ty := .int) (by decide)
          have F_b40_xzResolution : Fld Z h40 b40 "com/example/godwit/godwit/StoreSettings" "xzResolution" "I" (.int (0 : Int32)) := D40 (Or.inr (hw _ (List.mem_of_getElem? (i := 15) rfl))) (ty := .int) (by decide)
          refine own_go (T' := T40) (g' := (mkF m 128 #[.val (.int i0), .val (.int i1), .val (.int i2), .val (.int i3), .val (.int i4), .val (.int i5), .val (.int z1), .val (.int b1), .val (.int x1), .val (.int z1), .val (.int z32), .val (.int kd), .val (.int z35), .val (.ref b38), .unset, .unset] [(.ref b40)])) (fun _ k => st40 _ k) ?_
          refine own_go (T' := T40) (g' := (mkF m 129 #[.val (.int i0), .val (.int i1), .val (.int i2), .val (.int i3), .val (.int i4), .val (.int i5), .val (.int z1), .val (.int b1), .val (.int x1), .val (.int z1), .val (.int z32), .val (.int kd), .val (.int z35), .val (.ref b38), .unset, .unset] [(.ref b40), (.ref b40)])) (fun _ k => XS.dup X40.here hx rfl (hb hby at_128) rfl rfl k) ?_
          refine own_go (T' := T40) (g' := (mkF m 131 #[.val (.int i0), .val (.int i1), .val (.int i2), .val (.int i3), .val (.int i4), .val (.int i5), .val (.int z1), .val (.int b1), .val (.int x1), .val (.int z1), .val (.int z32), .val (.int kd), .val (.int z35), .val (.ref b38), .unset, .unset] [(.int z1), (.ref b40), (.ref b40)])) (fun _ k => XS.iload X40.here hx rfl (hb hby at_129) rfl k) ?_
          refine own_go (T' := T40) (g' := (mkF m 133 #[.val (.int i0), .val (.int i1), .val (.int i2), .val (.int i3), .val (.int i4), .val (.int i5), .val (.int z1), .val (.int b1), .val (.int x1), .val (.int z1), .val (.int z32), .val (.int kd), .val (.int z35), .val (.ref b38), .unset, .unset] [(.int z32), (.int z1), (.ref b40), (.ref b40)])) (fun _ k => XS.iload X40.here hx rfl (hb hby at_131) rfl k) ?_
          refine own_go (T' := T40) (g' := (mkF m 135 #[.val (.int i0), .val (.int i1), .val (.int i2), .val (.int i3), .val (.int i4), .val (.int i5), .val (.int z1), .val (.int b1), .val (.int x1), .val (.int z1), .val (.int z32), .val (.int kd), .val (.int z35), .val (.ref b38), .unset, .unset] [(.int z35), (.int z32), (.int z1), (.ref b40), (.ref b40)])) (fun _ k => XS.iload X40.here hx rfl (hb hby at_133) rfl k) ?_
          obtain ⟨_, _, ⟨T41, L41, k41, n41⟩, -, X41, ⟨Lc41, hQ41, l41, y41, z41⟩, st41⟩ := X40.specialBack hx (y := (⟨"com/example/godwit/godwit/StoreSettings", "<init>", "(III)V"⟩ : MethodName)) rfl hown (mvT hZ (hw _ (List.mem_of_getElem? (i := 4) rfl))) (mvT hZ (hw _ (List.mem_of_getElem? (i := 5) rfl))) (mvT hZ (hw _ (List.mem_of_getElem? (i := 6) rfl))) (by decide) (backOf (W := 1) (own_rm2 l Z a0 hw [] b40 z1 z32 z35 h40 n0 Zs F_b40_timeBinSeconds F_b40_hilbertBits F_b40_xzResolution E_b40 g_b40 (by omega)) hZ (hw _ (List.mem_of_getElem? (i := 6) rfl)) (hw _ (List.mem_of_getElem? (i := 3) rfl)) (by decide) (by decide)) (g := (mkF m 135 #[.val (.int i0), .val (.int i1), .val (.int i2), .val (.int i3), .val (.int i4), .val (.int i5), .val (.int z1), .val (.int b1), .val (.int x1), .val (.int z1), .val (.int z32), .val (.int kd), .val (.int z35), .val (.ref b38), .unset, .unset] [(.int z35), (.int z32), (.int z1), (.ref b40), (.ref b40)])) rfl (by rw [hml]; rfl) (Steps.refl _) (a := b40) (argsL := [(.int z1), (.int z32), (.int z35)]) (rest := [(.ref b40)]) (lenOf own_pd0_1 rfl) rfl (by show 2 * 0 + _ ≤ _; exact Nat.le_of_eq rfl) (hb hby at_135) (fun _ _ => ⟨rfl, e40, (by decide : 2 + 0 ≤ _), (by decide : 6 + 0 ≤ _)⟩)
          dsimp only [Pt.U, Pt.locs, Pt.cells, Pt.slots] at X41 l41 y41 z41 st41 hQ41
          subst l41 y41 z41
          obtain ⟨rfl, NQ41, K41, E_b40, F_b40_timeBinSeconds, F_b40_hilbertBits, F_b40_xzResolution⟩ := hQ41
          have NF := Fr.app NF NQ41
          have OL := OL.keep K41 (allS g_b40 all0)
          have E_b38 := E_b38.keep K41
          have F_b38_timeBinSeconds := F_b38_timeBinSeconds.keep K41 (ninS ne_b38_b40 nin0)
          have F_b38_hilbertBits := F_b38_hilbertBits.keep K41 (ninS ne_b38_b40 nin0)
          have F_b38_xzResolution := F_b38_xzResolution.keep K41 (ninS ne_b38_b40 nin0)
          have Zs := Nat.le_trans Zs K41.1
          refine own_go (T' := T41) (g' := (mkF m 138 #[.val (.int i0), .val (.int i1), .val (.int i2), .val (.int i3), .val (.int i4), .val (.int i5), .val (.int z1), .val (.int b1), .val (.int x1), .val (.int z1), .val (.int z32), .val (.int kd), .val (.int z35), .val (.ref b38), .unset, .unset] [(.ref b40)])) (fun _ k => st41.trans k) ?_
          refine own_go (T' := T41) (g' := (mkF m 140 #[.val (.int i0), .val (.int i1), .val (.int i2), .val (.int i3), .val (.int i4), .val (.int i5), .val (.int z1), .val (.int b1), .val (.int x1), .val (.int z1), .val (.int z32), .val (.int kd), .val (.int z35), .val (.ref b38), .val (.ref b40), .unset] [])) (fun _ k => XS.astore X41.here hx rfl (hb hby at_138) rfl rfl (l' := #[.val (.int i0), .val (.int i1), .val (.int i2), .val (.int i3), .val (.int i4), .val (.int i5), .val (.int z1), .val (.int b1), .val (.int x1), .val (.int z1), .val (.int z32), .val (.int kd), .val (.int z35), .val (.ref b38), .val (.ref b40), .unset]) rfl k) ?_
          refine own_go (T' := T41) (g' := (mkF m 142 #[.val (.int i0), .val (.int i1), .val (.int i2), .val (.int i3), .val (.int i4), .val (.int i5), .val (.int z1), .val (.int b1), .val (.int x1), .val (.int z1), .val (.int z32), .val (.int kd), .val (.int z35), .val (.ref b38), .val (.ref b40), .unset] [(.ref b38)])) (fun _ k => XS.aload X41.here hx rfl (hb hby at_140) rfl rfl k) ?_
          refine own_go (T' := T41) (g' := (mkF m 144 #[.val (.int i0), .val (.int i1), .val (.int i2), .val (.int i3), .val (.int i4), .val (.int i5), .val (.int z1), .val (.int b1), .val (.int x1), .val (.int z1), .val (.int z32), .val (.int kd), .val (.int z35), .val (.ref b38), .val (.ref b40), .unset] [(.ref b38), (.ref b38)])) (fun _ k => XS.aload X41.here hx rfl (hb hby at_142) rfl rfl k) ?_
          obtain ⟨cq42, kq42, q42a, q42b, q42c⟩ := isOf hZ rfl E_b38
          obtain ⟨_, _, ⟨T42, L42, k42, n42⟩, -, X42, ⟨Lc42, hQ42, l42, y42, z42⟩, st42⟩ := X41.virtualBack hx (y := (⟨"com/example/godwit/godwit/StoreSettings", "equals", "(Ljava/lang/Object;)Z"⟩ : MethodName)) (z := (⟨"com/example/godwit/godwit/StoreSettings", "equals", "(Ljava/lang/Object;)Z"⟩ : MethodName)) hown (mvT hZ (hw _ (List.mem_of_getElem? (i := 16) rfl))) (mvT hZ (hw _ (List.mem_of_getElem? (i := 17) rfl))) (notFace_of_selects (args := #[]) (mvT hZ (hw _ (List.mem_of_getElem? (i := 19) rfl)))) (mvT hZ (hw _ (List.mem_of_getElem? (i := 19) rfl))) (mvT hZ (hw _ (List.mem_of_getElem? (i := 18) rfl))) (by decide) (backOf (W := 0) (own_rm6 l Z a0 hw [] b38 b38 z1 b1 x1 z1 b1 x1 T41.heap n0 Zs F_b38_timeBinSeconds F_b38_hilbertBits F_b38_xzResolution F_b38_timeBinSeconds F_b38_hilbertBits F_b38_xzResolution E_b38) hZ (hw _ (List.mem_of_getElem? (i := 20) rfl)) (hw _ (List.mem_of_getElem? (i := 3) rfl)) (by decide) (by decide)) q42a q42c (g := (mkF m 144 #[.val (.int i0), .val (.int i1), .val (.int i2), .val (.int i3), .val (.int i4), .val (.int i5), .val (.int z1), .val (.int b1), .val (.int x1), .val (.int z1), .val (.int z32), .val (.int kd), .val (.int z35), .val (.ref b38), .val (.ref b40), .unset] [(.ref b38), (.ref b38)])) rfl (by rw [hml]; rfl) (Steps.refl _) (argsL := [(.ref b38)]) (rest := []) (lenOf own_pd0_2 rfl) rfl (by show 2 * 0 + _ ≤ _; exact Nat.le_of_eq rfl) (hb hby at_144) (fun _ _ => ⟨rfl, rfl, (by decide : 2 + 0 ≤ _), (by decide : 6 + 0 ≤ _)⟩)
          dsimp only [Pt.U, Pt.locs, Pt.cells, Pt.slots] at X42 l42 y42 z42 st42 hQ42
          subst l42 y42 z42
          obtain ⟨rfl, NQ42, eq42⟩ := hQ42
          have NF := Fr.app NF NQ42
          refine own_go (T' := T42) (g' := (mkF m 147 #[.val (.int i0), .val (.int i1), .val (.int i2), .val (.int i3), .val (.int i4), .val (.int i5), .val (.int z1), .val (.int b1), .val (.int x1), .val (.int z1), .val (.int z32), .val (.int kd), .val (.int z35), .val (.ref b38), .val (.ref b40), .unset] [(.int (if (z1.toInt = z1.toInt ∧ b1.toInt = b1.toInt ∧ x1.toInt = x1.toInt) then (1 : Int32) else 0))])) (fun _ k => st42.trans k) ?_
          have hq : ¬ (if (z1.toInt = z1.toInt ∧ b1.toInt = b1.toInt ∧ x1.toInt = x1.toInt) then (1 : Int32) else 0) = (0 : Int32) := by rw [if_pos (by omega)]; decide
          refine own_go (T' := T42) (g' := (mkF m 152 #[.val (.int i0), .val (.int i1), .val (.int i2), .val (.int i3), .val (.int i4), .val (.int i5), .val (.int z1), .val (.int b1), .val (.int x1), .val (.int z1), .val (.int z32), .val (.int kd), .val (.int z35), .val (.ref b38), .val (.ref b40), .unset] [])) (fun _ k => XS.ifYes X42.here hx rfl (pc0 := 147) (pc' := 152) rfl (hb hby at_147) rfl ((if0 _ _).trans (feq hq).2) (by decide) (by decide) k) ?_
          refine own_go (T' := T42) (g' := (mkF m 154 #[.val (.int i0), .val (.int i1), .val (.int i2), .val (.int i3), .val (.int i4), .val (.int i5), .val (.int z1), .val (.int b1), .val (.int x1), .val (.int z1), .val (.int z32), .val (.int kd), .val (.int z35), .val (.ref b38), .val (.ref b40), .unset] [(.int kd)])) (fun _ k => XS.iload X42.here hx rfl (hb hby at_152) rfl k) ?_
          refine own_go (T' := T42) (g' := (mkF m 155 #[.val (.int i0), .val (.int i1), .val (.int i2), .val (.int i3), .val (.int i4), .val (.int i5), .val (.int z1), .val (.int b1), .val (.int x1), .val (.int z1), .val (.int z32), .val (.int kd), .val (.int z35), .val (.ref b38), .val (.ref b40), .unset] [(.int (2 : Int32)), (.int kd)])) (fun _ k => XS.iconst X42.here hx rfl (hb hby at_154) k) ?_
          by_cases c43 : kd = (2 : Int32)
          · refine own_go (T' := T42) (g' := (mkF m 158 #[.val (.int i0), .val (.int i1), .val (.int i2), .val (.int i3), .val (.int i4), .val (.int i5), .val (.int z1), .val (.int b1), .val (.int x1), .val (.int z1), .val (.int z32), .val (.int kd), .val (.int z35), .val (.ref b38), .val (.ref b40), .unset] [])) (fun _ k => XS.icmpNo X42.here hx rfl (hb hby at_155) rfl (teq c43).2 k) ?_
            refine own_go (T' := T42) (g' := (mkF m 160 #[.val (.int i0), .val (.int i1), .val (.int i2), .val (.int i3), .val (.int i4), .val (.int i5), .val (.int z1), .val (.int b1), .val (.int x1), .val (.int z1), .val (.int z32), .val (.int kd), .val (.int z35), .val (.ref b38), .val (.ref b40), .unset] [(.ref b38)])) (fun _ k => XS.aload X42.here hx rfl (hb hby at_158) rfl rfl k) ?_
            refine own_go (T' := T42) (g' := (mkF m 161 #[.val (.int i0), .val (.int i1), .val (.int i2), .val (.int i3), .val (.int i4), .val (.int i5), .val (.int z1), .val (.int b1), .val (.int x1), .val (.int z1), .val (.int z32), .val (.int kd), .val (.int z35), .val (.ref b38), .val (.ref b40), .unset] [.null, (.ref b38)])) (fun _ k => XS.aconstNull X42.here hx rfl (hb hby at_160) k) ?_
            obtain ⟨cq44, kq44, q44a, q44b, q44c⟩ := isOf hZ eq42 E_b38
            obtain ⟨_, _, ⟨T44, L44, k44, n44⟩, -, X44, ⟨Lc44, hQ44, l44, y44, z44⟩, st44⟩ := X42.virtualBack hx (y := (⟨"com/example/godwit/godwit/StoreSettings", "equals", "(Ljava/lang/Object;)Z"⟩ : MethodName)) (z := (⟨"com/example/godwit/godwit/StoreSettings", "equals", "(Ljava/lang/Object;)Z"⟩ : MethodName)) hown (mvT hZ (hw _ (List.mem_of_getElem? (i := 16) rfl))) (mvT hZ (hw _ (List.mem_of_getElem? (i := 17) rfl))) (notFace_of_selects (args := #[]) (mvT hZ (hw _ (List.mem_of_getElem? (i := 19) rfl)))) (mvT hZ (hw _ (List.mem_of_getElem? (i := 19) rfl))) (mvT hZ (hw _ (List.mem_of_getElem? (i := 18) rfl))) (by decide) (backOf (W := 0) (own_rm7 l Z a0 hw [] b38 T41.heap n0 Zs) hZ (hw _ (List.mem_of_getElem? (i := 20) rfl)) (hw _ (List.mem_of_getElem? (i := 3) rfl)) (by decide) (by decide)) q44a q44c (g := (mkF m 161 #[.val (.int i0), .val (.int i1), .val (.int i2), .val (.int i3), .val (.int i4), .val (.int i5), .val (.int z1), .val (.int b1), .val (.int x1), .val (.int z1), .val (.int z32), .val (.int kd), .val (.int z35), .val (.ref b38), .val (.ref b40), .unset] [.null, (.ref b38)])) rfl (by rw [hml]; rfl) (Steps.refl _) (argsL := [.null]) (rest := []) (lenOf own_pd0_2 rfl) rfl (by show 2 * 0 + _ ≤ _; exact Nat.le_of_eq rfl) (hb hby at_161) (fun _ _ => ⟨rfl, eq42, (by decide : 2 + 0 ≤ _), (by decide : 6 + 0 ≤ _)⟩)
            dsimp only [Pt.U, Pt.locs, Pt.cells, Pt.slots] at X44 l44 y44 z44 st44 hQ44
            subst l44 y44 z44
            obtain ⟨rfl, NQ44, eq44⟩ := hQ44
            have NF := Fr.app NF NQ44
            refine own_go (T' := T44) (g' := (mkF m 164 #[.val (.int i0), .val (.int i1), .val (.int i2), .val (.int i3), .val (.int i4), .val (.int i5), .val (.int z1), .val (.int b1), .val (.int x1), .val (.int z1), .val (.int z32), .val (.int kd), .val (.int z35), .val (.ref b38), .val (.ref b40), .unset] [(.int (0 : Int32))])) (fun _ k => st44.trans k) ?_
            refine own_go (T' := T44) (g' := (mkF m 167 #[.val (.int i0), .val (.int i1), .val (.int i2), .val (.int i3), .val (.int i4), .val (.int i5), .val (.int z1), .val (.int b1), .val (.int x1), .val (.int z1), .val (.int z32), .val (.int kd), .val (.int z35), .val (.ref b38), .val (.ref b40), .unset] [])) (fun _ k => XS.ifNo X44.here hx rfl (hb hby at_164) rfl (by decide) k) ?_
            refine own_go (T' := T44) (g' := (mkF m 168 #[.val (.int i0), .val (.int i1), .val (.int i2), .val (.int i3), .val (.int i4), .val (.int i5), .val (.int z1), .val (.int b1), .val (.int x1), .val (.int z1), .val (.int z32), .val (.int kd), .val (.int z35), .val (.ref b38), .val (.ref b40), .unset] [(.int (1 : Int32))])) (fun _ k => XS.iconst X44.here hx rfl (hb hby at_167) k) ?_
            refine own_go (T' := T44) (g' := (mkF m 172 #[.val (.int i0), .val (.int i1), .val (.int i2), .val (.int i3), .val (.int i4), .val (.int i5), .val (.int z1), .val (.int b1), .val (.int x1), .val (.int z1), .val (.int z32), .val (.int kd), .val (.int z35), .val (.ref b38), .val (.ref b40), .unset] [(.int (1 : Int32))])) (fun _ k => XS.goto X44.here hx rfl (pc0 := 168) (pc' := 172) rfl (hb hby at_168) (by decide) (by decide) k) ?_
            refine own_ret X44 Bd.notSynchronized (some (.int (1 : Int32))) (fun h => by rw [Bd.returns] at h; cases h) (fun fs hr => retN X44 hx (t := .boolean) Bd.returns (by simp) (hb hby at_172) hr) ?_ (by decide) (by decide)
            show (own_Q0 Z i0 i1 i2 i3 i4 i5 ca cc bval h0 n0) (some (.int (1 : Int32))) T44.heap _
            rw [eq44]
            exact ⟨rfl, NF⟩
          · refine own_go (T' := T42) (g' := (mkF m 173 #[.val (.int i0), .val (.int i1), .val (.int i2), .val (.int i3), .val (.int i4), .val (.int i5), .val (.int z1), .val (.int b1), .val (.int x1), .val (.int z1), .val (.int z32), .val (.int kd), .val (.int z35), .val (.ref b38), .val (.ref b40), .unset] [])) (fun _ k => XS.icmpYes X42.here hx rfl (pc0 := 155) (pc' := 173) rfl (hb hby at_155) rfl (feq c43).2 (by decide) (by decide) k) ?_
            refine own_go (T' := T42) (g' := (mkF m 175 #[.val (.int i0), .val (.int i1), .val (.int i2), .val (.int i3), .val (.int i4), .val (.int i5), .val (.int z1), .val (.int b1), .val (.int x1), .val (.int z1), .val (.int z32), .val (.int kd), .val (.int z35), .val (.ref b38), .val (.ref b40), .unset] [(.int kd)])) (fun _ k => XS.iload X42.here hx rfl (hb hby at_173) rfl k) ?_
            refine own_go (T' := T42) (g' := (mkF m 176 #[.val (.int i0), .val (.int i1), .val (.int i2), .val (.int i3), .val (.int i4), .val (.int i5), .val (.int z1), .val (.int b1), .val (.int x1), .val (.int z1), .val (.int z32), .val (.int kd), .val (.int z35), .val (.ref b38), .val (.ref b40), .unset] [(.int (3 : Int32)), (.int kd)])) (fun _ k => XS.iconst X42.here hx rfl (hb hby at_175) k) ?_
            by_cases c45 : kd = (3 : Int32)
            · refine own_go (T' := T42) (g' := (mkF m 179 #[.val (.int i0), .val (.int i1), .val (.int i2), .val (.int i3), .val (.int i4), .val (.int i5), .val (.int z1), .val (.int b1), .val (.int x1), .val (.int z1), .val (.int z32), .val (.int kd), .val (.int z35), .val (.ref b38), .val (.ref b40), .unset] [])) (fun _ k => XS.icmpNo X42.here hx rfl (hb hby at_176) rfl (teq c45).2 k) ?_
              refine own_go (T' := T42) (g' := (mkF m 181 #[.val (.int i0), .val (.int i1), .val (.int i2), .val (.int i3), .val (.int i4), .val (.int i5), .val (.int z1), .val (.int b1), .val (.int x1), .val (.int z1), .val (.int z32), .val (.int kd), .val (.int z35), .val (.ref b38), .val (.ref b40), .unset] [(.ref b38)])) (fun _ k => XS.aload X42.here hx rfl (hb hby at_179) rfl rfl k) ?_
              refine own_go (T' := T42) (g' := (mkF m 183 #[.val (.int i0), .val (.int i1), .val (.int i2), .val (.int i3), .val (.int i4), .val (.int i5), .val (.int z1), .val (.int b1), .val (.int x1), .val (.int z1), .val (.int z32), .val (.int kd), .val (.int z35), .val (.ref b38), .val (.ref b40), .unset] [(.int z1), (.ref b38)])) (fun _ k => XS.iload X42.here hx rfl (hb hby at_181) rfl k) ?_
              obtain ⟨_, _, ⟨T46, L46, k46, n46⟩, -, X46, ⟨Lc46, hQ46, l46, y46, z46⟩, st46⟩ := Jvm.LawKit.callS X42 hx (y := (⟨"java/lang/Integer", "valueOf", "(I)Ljava/lang/Integer;"⟩ : MethodName)) hown (mvT hZ (hw _ (List.mem_of_getElem? (i := 27) rfl))) (mvT hZ (hw _ (List.mem_of_getElem? (i := 28) rfl))) (mvT hZ (hw _ (List.mem_of_getElem? (i := 29) rfl))) (mvT hZ (hw _ (List.mem_of_getElem? (i := 30) rfl))) (by decide) (backOf (W := 1) (own_rm5 l Z a0 hw [] z1 ca cc bval T41.heap n0 Zs OL S_high S_cache BX) hZ (hw _ (List.mem_of_getElem? (i := 30) rfl)) (hw _ (List.mem_of_getElem? (i := 29) rfl)) (by decide) (by decide)) (g := (mkF m 183 #[.val (.int i0), .val (.int i1), .val (.int i2), .val (.int i3), .val (.int i4), .val (.int i5), .val (.int z1), .val (.int b1), .val (.int x1), .val (.int z1), .val (.int z32), .val (.int kd), .val (.int z35), .val (.ref b38), .val (.ref b40), .unset] [(.int z1), (.ref b38)])) rfl (by rw [hml]; rfl) (argsL := [(.int z1)]) (rest := [(.ref b38)]) (lenOf own_pd0_3 rfl) rfl (by show 2 * 0 + _ ≤ _; exact Nat.le_of_eq rfl) (hb hby at_183) (fun _ _ => ⟨rfl, eq42, (by decide : 2 + 1 ≤ _), (by decide : 6 + 1 ≤ _)⟩)
              dsimp only [Pt.U, Pt.locs, Pt.cells, Pt.slots] at X46 l46 y46 z46 st46 hQ46
              subst l46 y46 z46
              obtain ⟨⟨bx46, rfl, E_bx46⟩, NQ46, K46⟩ := hQ46
              have NF := Fr.app NF NQ46
              have OL := OL.keep K46 all0
              have E_b38 := E_b38.keep K46
              have F_b38_timeBinSeconds := F_b38_timeBinSeconds.keep K46 nin0
              have F_b38_hilbertBits := F_b38_hilbertBits.keep K46 nin0
              have F_b38_xzResolution := F_b38_xzResolution.keep K46 nin0
              have E_b40 := E_b40.keep K46
              have F_b40_timeBinSeconds := F_b40_timeBinSeconds.keep K46 nin0
              have F_b40_hilbertBits := F_b40_hilbertBits.keep K46 nin0
              have F_b40_xzResolution := F_b40_xzResolution.keep K46 nin0
              have Zs := Nat.le_trans Zs K46.1
              refine own_go (T' := T46) (g' := (mkF m 186 #[.val (.int i0), .val (.int i1), .val (.int i2), .val (.int i3), .val (.int i4), .val (.int i5), .val (.int z1), .val (.int b1), .val (.int x1), .val (.int z1), .val (.int z32), .val (.int kd), .val (.int z35), .val (.ref b38), .val (.ref b40), .unset] [(.ref bx46), (.ref b38)])) (fun _ k => st46 _ k) ?_
              obtain ⟨cq47, kq47, q47a, q47b, q47c⟩ := isOf hZ rfl E_b38
              obtain ⟨_, _, ⟨T47, L47, k47, n47⟩, -, X47, ⟨Lc47, hQ47, l47, y47, z47⟩, st47⟩ := X46.virtualBack hx (y := (⟨"com/example/godwit/godwit/StoreSettings", "equals", "(Ljava/lang/Object;)Z"⟩ : MethodName)) (z := (⟨"com/example/godwit/godwit/StoreSettings", "equals", "(Ljava/lang/Object;)Z"⟩ : MethodName)) hown (mvT hZ (hw _ (List.mem_of_getElem? (i := 16) rfl))) (mvT hZ (hw _ (List.mem_of_getElem? (i := 17) rfl))) (notFace_of_selects (args := #[]) (mvT hZ (hw _ (List.mem_of_getElem? (i := 19) rfl)))) (mvT hZ (hw _ (List.mem_of_getElem? (i := 19) rfl))) (mvT hZ (hw _ (List.mem_of_getElem? (i := 18) rfl))) (by decide) (backOf (W := 0) (own_rm8 l Z a0 hw [] b38 bx46 T46.heap n0 Zs E_bx46) hZ (hw _ (List.mem_of_getElem? (i := 20) rfl)) (hw _ (List.mem_of_getElem? (i := 3) rfl)) (by decide) (by decide)) q47a q47c (g := (mkF m 186 #[.val (.int i0), .val (.int i1), .val (.int i2), .val (.int i3), .val (.int i4), .val (.int i5), .val (.int z1), .val (.int b1), .val (.int x1), .val (.int z1), .val (.int z32), .val (.int kd), .val (.int z35), .val (.ref b38), .val (.ref b40), .unset] [(.ref bx46), (.ref b38)])) rfl (by rw [hml]; rfl) (Steps.refl _) (argsL := [(.ref bx46)]) (rest := []) (lenOf own_pd0_2 rfl) rfl (by show 2 * 0 + _ ≤ _; exact Nat.le_of_eq rfl) (hb hby at_186) (fun _ _ => ⟨rfl, rfl, (by decide : 3 + 0 ≤ _), (by decide : 7 + 0 ≤ _)⟩)
              dsimp only [Pt.U, Pt.locs, Pt.cells, Pt.slots] at X47 l47 y47 z47 st47 hQ47
              subst l47 y47 z47
              obtain ⟨rfl, NQ47, eq47⟩ := hQ47
              have NF := Fr.app NF NQ47
              refine own_go (T' := T47) (g' := (mkF m 189 #[.val (.int i0), .val (.int i1), .val (.int i2), .val (.int i3), .val (.int i4), .val (.int i5), .val (.int z1), .val (.int b1), .val (.int x1), .val (.int z1), .val (.int z32), .val (.int kd), .val (.int z35), .val (.ref b38), .val (.ref b40), .unset] [(.int (0 : Int32))])) (fun _ k => st47.trans k) ?_
              refine own_go (T' := T47) (g' := (mkF m 192 #[.val (.int i0), .val (.int i1), .val (.int i2), .val (.int i3), .val (.int i4), .val (.int i5), .val (.int z1), .val (.int b1), .val (.int x1), .val (.int z1), .val (.int z32), .val (.int kd), .val (.int z35), .val (.ref b38), .val (.ref b40), .unset] [])) (fun _ k => XS.ifNo X47.here hx rfl (hb hby at_189) rfl (by decide) k) ?_
              refine own_go (T' := T47) (g' := (mkF m 193 #[.val (.int i0), .val (.int i1), .val (.int i2), .val (.int i3), .val (.int i4), .val (.int i5), .val (.int z1), .val (.int b1), .val (.int x1), .val (.int z1), .val (.int z32), .val (.int kd), .val (.int z35), .val (.ref b38), .val (.ref b40), .unset] [(.int (1 : Int32))])) (fun _ k => XS.iconst X47.here hx rfl (hb hby at_192) k) ?_
              refine own_go (T' := T47) (g' := (mkF m 197 #[.val (.int i0), .val (.int i1), .val (.int i2), .val (.int i3), .val (.int i4), .val (.int i5), .val (.int z1), .val (.int b1), .val (.int x1), .val (.int z1), .val (.int z32), .val (.int kd), .val (.int z35), .val (.ref b38), .val (.ref b40), .unset] [(.int (1 : Int32))])) (fun _ k => XS.goto X47.here hx rfl (pc0 := 193) (pc' := 197) rfl (hb hby at_193) (by decide) (by decide) k) ?_
              refine own_ret X47 Bd.notSynchronized (some (.int (1 : Int32))) (fun h => by rw [Bd.returns] at h; cases h) (fun fs hr => retN X47 hx (t := .boolean) Bd.returns (by simp) (hb hby at_197) hr) ?_ (by decide) (by decide)
              show (own_Q0 Z i0 i1 i2 i3 i4 i5 ca cc bval h0 n0) (some (.int (1 : Int32))) T47.heap _
              rw [eq47]
              exact ⟨rfl, NF⟩
            · refine own_go (T' := T42) (g' := (mkF m 198 #[.val (.int i0), .val (.int i1), .val (.int i2), .val (.int i3), .val (.int i4), .val (.int i5), .val (.int z1), .val (.int b1), .val (.int x1), .val (.int z1), .val (.int z32), .val (.int kd), .val (.int z35), .val (.ref b38), .val (.ref b40), .unset] [])) (fun _ k => XS.icmpYes X42.here hx rfl (pc0 := 176) (pc' := 198) rfl (hb hby at_176) rfl (feq c45).2 (by decide) (by decide) k) ?_
              refine own_go (T' := T42) (g' := (mkF m 200 #[.val (.int i0), .val (.int i1), .val (.int i2), .val (.int i3), .val (.int i4), .val (.int i5), .val (.int z1), .val (.int b1), .val (.int x1), .val (.int z1), .val (.int z32), .val (.int kd), .val (.int z35), .val (.ref b38), .val (.ref b40), .unset] [(.int z1)])) (fun _ k => XS.iload X42.here hx rfl (hb hby at_198) rfl k) ?_
              refine own_go (T' := T42) (g' := (mkF m 202 #[.val (.int i0), .val (.int i1), .val (.int i2), .val (.int i3), .val (.int i4), .val (.int i5), .val (.int z1), .val (.int b1), .val (.int x1), .val (.int z1), .val (.int z32), .val (.int kd), .val (.int z35), .val (.ref b38), .val (.ref b40), .unset] [(.int z1), (.int z1)])) (fun _ k => XS.iload X42.here hx rfl (hb hby at_200) rfl k) ?_
              have J50 : ∀ (z48 : Int32), ((z48.toInt = 1 ∧ (z1.toInt = z1.toInt ∧ b1.toInt = z32.toInt ∧ x1.toInt = z35.toInt)) ∨ (z48.toInt = 0 ∧ ¬ (z1.toInt = z1.toInt ∧ b1.toInt = z32.toInt ∧ x1.toInt = z35.toInt))) → own_Dn p e below s (own_Q0 Z i0 i1 i2 i3 i4 i5 ca cc bval h0 n0) room_1.cells room_1.slots T42 (mkF m 224 #[.val (.int i0), .val (.int i1), .val (.int i2), .val (.int i3), .val (.int i4), .val (.int i5), .val (.int z1), .val (.int b1), .val (.int x1), .val (.int z1), .val (.int z32), .val (.int kd), .val (.int z35), .val (.ref b38), .val (.ref b40), .unset] [(.int z48)]) := by
                intro z48 hz49
                refine own_go (T' := T42) (g' := (mkF m 226 #[.val (.int i0), .val (.int i1), .val (.int i2), .val (.int i3), .val (.int i4), .val (.int i5), .val (.int z1), .val (.int b1), .val (.int x1), .val (.int z1), .val (.int z32), .val (.int kd), .val (.int z35), .val (.ref b38), .val (.ref b40), .val (.int z48)] [])) (fun _ k => XS.istore X42.here hx rfl (hb hby at_224) rfl (l' := #[.val (.int i0), .val (.int i1), .val (.int i2), .val (.int i3), .val (.int i4), .val (.int i5), .val (.int z1), .val (.int b1), .val (.int x1), .val (.int z1), .val (.int z32), .val (.int kd), .val (.int z35), .val (.ref b38), .val (.ref b40), .val (.int z48)]) rfl k) ?_
                refine own_go (T' := T42) (g' := (mkF m 228 #[.val (.int i0), .val (.int i1), .val (.int i2), .val (.int i3), .val (.int i4), .val (.int i5), .val (.int z1), .val (.int b1), .val (.int x1), .val (.int z1), .val (.int z32), .val (.int kd), .val (.int z35), .val (.ref b38), .val (.ref b40), .val (.int z48)] [(.ref b38)])) (fun _ k => XS.aload X42.here hx rfl (hb hby at_226) rfl rfl k) ?_
                refine own_go (T' := T42) (g' := (mkF m 230 #[.val (.int i0), .val (.int i1), .val (.int i2), .val (.int i3), .val (.int i4), .val (.int i5), .val (.int z1), .val (.int b1), .val (.int x1), .val (.int z1), .val (.int z32), .val (.int kd), .val (.int z35), .val (.ref b38), .val (.ref b40), .val (.int z48)] [(.ref b40), (.ref b38)])) (fun _ k => XS.aload X42.here hx rfl (hb hby at_228) rfl rfl k) ?_
                obtain ⟨cq51, kq51, q51a, q51b, q51c⟩ := isOf hZ eq42 E_b38
                obtain ⟨_, _, ⟨T51, L51, k51, n51⟩, -, X51, ⟨Lc51, hQ51, l51, y51, z51⟩, st51⟩ := X42.virtualBack hx (y := (⟨"com/example/godwit/godwit/StoreSettings", "equals", "(Ljava/lang/Object;)Z"⟩ : MethodName)) (z := (⟨"com/example/godwit/godwit/StoreSettings", "equals", "(Ljava/lang/Object;)Z"⟩ : MethodName)) hown (mvT hZ (hw _ (List.mem_of_getElem? (i := 16) rfl))) (mvT hZ (hw _ (List.mem_of_getElem? (i := 17) rfl))) (notFace_of_selects (args := #[]) (mvT hZ (hw _ (List.mem_of_getElem? (i := 19) rfl)))) (mvT hZ (hw _ (List.mem_of_getElem? (i := 19) rfl))) (mvT hZ (hw _ (List.mem_of_getElem? (i := 18) rfl))) (by decide) (backOf (W := 0) (own_rm6 l Z a0 hw [] b38 b40 z1 b1 x1 z1 z32 z35 T41.heap n0 Zs F_b38_timeBinSeconds F_b38_hilbertBits F_b38_xzResolution F_b40_timeBinSeconds F_b40_hilbertBits F_b40_xzResolution E_b40) hZ (hw _ (List.mem_of_getElem? (i := 20) rfl)) (hw _ (List.mem_of_getElem? (i := 3) rfl)) (by decide) (by decide)) q51a q51c (g := (mkF m 230 #[.val (.int i0), .val (.int i1), .val (.int i2), .val (.int i3), .val (.int i4), .val (.int i5), .val (.int z1), .val (.int b1), .val (.int x1), .val (.int z1), .val (.int z32), .val (.int kd), .val (.int z35), .val (.ref b38), .val (.ref b40), .val (.int z48)] [(.ref b40), (.ref b38)])) rfl (by rw [hml]; rfl) (Steps.refl _) (argsL := [(.ref b40)]) (rest := []) (lenOf own_pd0_2 rfl) rfl (by show 2 * 0 + _ ≤ _; exact Nat.le_of_eq rfl) (hb hby at_230) (fun _ _ => ⟨rfl, eq42, (by decide : 2 + 0 ≤ _), (by decide : 6 + 0 ≤ _)⟩)
                dsimp only [Pt.U, Pt.locs, Pt.cells, Pt.slots] at X51 l51 y51 z51 st51 hQ51
                subst l51 y51 z51
                obtain ⟨rfl, NQ51, eq51⟩ := hQ51
                have NF := Fr.app NF NQ51
                refine own_go (T' := T51) (g' := (mkF m 233 #[.val (.int i0), .val (.int i1), .val (.int i2), .val (.int i3), .val (.int i4), .val (.int i5), .val (.int z1), .val (.int b1), .val (.int x1), .val (.int z1), .val (.int z32), .val (.int kd), .val (.int z35), .val (.ref b38), .val (.ref b40), .val (.int z48)] [(.int (if (z1.toInt = z1.toInt ∧ b1.toInt = z32.toInt ∧ x1.toInt = z35.toInt) then (1 : Int32) else 0))])) (fun _ k => st51.trans k) ?_
                refine own_go (T' := T51) (g' := (mkF m 235 #[.val (.int i0), .val (.int i1), .val (.int i2), .val (.int i3), .val (.int i4), .val (.int i5), .val (.int z1), .val (.int b1), .val (.int x1), .val (.int z1), .val (.int z32), .val (.int kd), .val (.int z35), .val (.ref b38), .val (.ref b40), .val (.int z48)] [(.int z48), (.int (if (z1.toInt = z1.toInt ∧ b1.toInt = z32.toInt ∧ x1.toInt = z35.toInt) then (1 : Int32) else 0))])) (fun _ k => XS.iload X51.here hx rfl (hb hby at_233) rfl k) ?_
                have hq235 : (if (z1.toInt = z1.toInt ∧ b1.toInt = z32.toInt ∧ x1.toInt = z35.toInt) then (1 : Int32) else 0) = z48 := by
                  have hh := own_ite (P := z1.toInt = z1.toInt ∧ b1.toInt = z32.toInt ∧ x1.toInt = z35.toInt)
                  (try simp only [own_ln128, own_l0, own_l1, own_l2, own_l3, own_l29, own_l31, own_l127, own_l128, own_l256, own_l2147483647, Int32.lt_iff_toInt_lt, ← Int32.toInt_inj, Int64.lt_iff_toInt_lt, ← Int64.toInt_inj, and_true, true_and, and_false, false_and, or_true, true_or, or_false, false_or, not_true_eq_false, not_false_eq_true, ne_eq, true_implies, false_implies, implies_true] at hh ⊢) <;> omega
                refine own_go (T' := T51) (g' := (mkF m 238 #[.val (.int i0), .val (.int i1), .val (.int i2), .val (.int i3), .val (.int i4), .val (.int i5), .val (.int z1), .val (.int b1), .val (.int x1), .val (.int z1), .val (.int z32), .val (.int kd), .val (.int z35), .val (.ref b38), .val (.ref b40), .val (.int z48)] [])) (fun _ k => XS.icmpNo X51.here hx rfl (hb hby at_235) rfl (teq hq235).2 k) ?_
                refine own_go (T' := T51) (g' := (mkF m 240 #[.val (.int i0), .val (.int i1), .val (.int i2), .val (.int i3), .val (.int i4), .val (.int i5), .val (.int z1), .val (.int b1), .val (.int x1), .val (.int z1), .val (.int z32), .val (.int kd), .val (.int z35), .val (.ref b38), .val (.ref b40), .val (.int z48)] [(.ref b40)])) (fun _ k => XS.aload X51.here hx rfl (hb hby at_238) rfl rfl k) ?_
                refine own_go (T' := T51) (g' := (mkF m 242 #[.val (.int i0), .val (.int i1), .val (.int i2), .val (.int i3), .val (.int i4), .val (.int i5), .val (.int z1), .val (.int b1), .val (.int x1), .val (.int z1), .val (.int z32), .val (.int kd), .val (.int z35), .val (.ref b38), .val (.ref b40), .val (.int z48)] [(.ref b38), (.ref b40)])) (fun _ k => XS.aload X51.here hx rfl (hb hby at_240) rfl rfl k) ?_
                obtain ⟨cq52, kq52, q52a, q52b, q52c⟩ := isOf hZ eq51 E_b40
                obtain ⟨_, _, ⟨T52, L52, k52, n52⟩, -, X52, ⟨Lc52, hQ52, l52, y52, z52⟩, st52⟩ := X51.virtualBack hx (y := (⟨"com/example/godwit/godwit/StoreSettings", "equals", "(Ljava/lang/Object;)Z"⟩ : MethodName)) (z := (⟨"com/example/godwit/godwit/StoreSettings", "equals", "(Ljava/lang/Object;)Z"⟩ : MethodName)) hown (mvT hZ (hw _ (List.mem_of_getElem? (i := 16) rfl))) (mvT hZ (hw _ (List.mem_of_getElem? (i := 17) rfl))) (notFace_of_selects (args := #[]) (mvT hZ (hw _ (List.mem_of_getElem? (i := 19) rfl)))) (mvT hZ (hw _ (List.mem_of_getElem? (i := 19) rfl))) (mvT hZ (hw _ (List.mem_of_getElem? (i := 18) rfl))) (by decide) (backOf (W := 0) (own_rm6 l Z a0 hw [] b40 b38 z1 z32 z35 z1 b1 x1 T41.heap n0 Zs F_b40_timeBinSeconds F_b40_hilbertBits F_b40_xzResolution F_b38_timeBinSeconds F_b38_hilbertBits F_b38_xzResolution E_b38) hZ (hw _ (List.mem_of_getElem? (i := 20) rfl)) (hw _ (List.mem_of_getElem? (i := 3) rfl)) (by decide) (by decide)) q52a q52c (g := (mkF m 242 #[.val (.int i0), .val (.int i1), .val (.int i2), .val (.int i3), .val (.int i4), .val (.int i5), .val (.int z1), .val (.int b1), .val (.int x1), .val (.int z1), .val (.int z32), .val (.int kd), .val (.int z35), .val (.ref b38), .val (.ref b40), .val (.int z48)] [(.ref b38), (.ref b40)])) rfl (by rw [hml]; rfl) (Steps.refl _) (argsL := [(.ref b38)]) (rest := []) (lenOf own_pd0_2 rfl) rfl (by show 2 * 0 + _ ≤ _; exact Nat.le_of_eq rfl) (hb hby at_242) (fun _ _ => ⟨rfl, eq51, (by decide : 2 + 0 ≤ _), (by decide : 6 + 0 ≤ _)⟩)
                dsimp only [Pt.U, Pt.locs, Pt.cells, Pt.slots] at X52 l52 y52 z52 st52 hQ52
                subst l52 y52 z52
                obtain ⟨rfl, NQ52, eq52⟩ := hQ52
                have NF := Fr.app NF NQ52
                refine own_go (T' := T52) (g' := (mkF m 245 #[.val (.int i0), .val (.int i1), .val (.int i2), .val (.int i3), .val (.int i4), .val (.int i5), .val (.int z1), .val (.int b1), .val (.int x1), .val (.int z1), .val (.int z32), .val (.int kd), .val (.int z35), .val (.ref b38), .val (.ref b40), .val (.int z48)] [(.int (if (z1.toInt = z1.toInt ∧ z32.toInt = b1.toInt ∧ z35.toInt = x1.toInt) then (1 : Int32) else 0))])) (fun _ k => st52.trans k) ?_
                refine own_go (T' := T52) (g' := (mkF m 247 #[.val (.int i0), .val (.int i1), .val (.int i2), .val (.int i3), .val (.int i4), .val (.int i5), .val (.int z1), .val (.int b1), .val (.int x1), .val (.int z1), .val (.int z32), .val (.int kd), .val (.int z35), .val (.ref b38), .val (.ref b40), .val (.int z48)] [(.int z48), (.int (if (z1.toInt = z1.toInt ∧ z32.toInt = b1.toInt ∧ z35.toInt = x1.toInt) then (1 : Int32) else 0))])) (fun _ k => XS.iload X52.here hx rfl (hb hby at_245) rfl k) ?_
                have hq247 : (if (z1.toInt = z1.toInt ∧ z32.toInt = b1.toInt ∧ z35.toInt = x1.toInt) then (1 : Int32) else 0) = z48 := by
                  have hh := own_ite (P := z1.toInt = z1.toInt ∧ z32.toInt = b1.toInt ∧ z35.toInt = x1.toInt)
                  (try simp only [own_ln128, own_l0, own_l1, own_l2, own_l3, own_l29, own_l31, own_l127, own_l128, own_l256, own_l2147483647, Int32.lt_iff_toInt_lt, ← Int32.toInt_inj, Int64.lt_iff_toInt_lt, ← Int64.toInt_inj, and_true, true_and, and_false, false_and, or_true, true_or, or_false, false_or, not_true_eq_false, not_false_eq_true, ne_eq, true_implies, false_implies, implies_true] at hh ⊢) <;> omega
                refine own_go (T' := T52) (g' := (mkF m 250 #[.val (.int i0), .val (.int i1), .val (.int i2), .val (.int i3), .val (.int i4), .val (.int i5), .val (.int z1), .val (.int b1), .val (.int x1), .val (.int z1), .val (.int z32), .val (.int kd), .val (.int z35), .val (.ref b38), .val (.ref b40), .val (.int z48)] [])) (fun _ k => XS.icmpNo X52.here hx rfl (hb hby at_247) rfl (teq hq247).2 k) ?_
                refine own_go (T' := T52) (g' := (mkF m 251 #[.val (.int i0), .val (.int i1), .val (.int i2), .val (.int i3), .val (.int i4), .val (.int i5), .val (.int z1), .val (.int b1), .val (.int x1), .val (.int z1), .val (.int z32), .val (.int kd), .val (.int z35), .val (.ref b38), .val (.ref b40), .val (.int z48)] [(.int (1 : Int32))])) (fun _ k => XS.iconst X52.here hx rfl (hb hby at_250) k) ?_
                refine own_go (T' := T52) (g' := (mkF m 255 #[.val (.int i0), .val (.int i1), .val (.int i2), .val (.int i3), .val (.int i4), .val (.int i5), .val (.int z1), .val (.int b1), .val (.int x1), .val (.int z1), .val (.int z32), .val (.int kd), .val (.int z35), .val (.ref b38), .val (.ref b40), .val (.int z48)] [(.int (1 : Int32))])) (fun _ k => XS.goto X52.here hx rfl (pc0 := 251) (pc' := 255) rfl (hb hby at_251) (by decide) (by decide) k) ?_
                refine own_ret X52 Bd.notSynchronized (some (.int (1 : Int32))) (fun h => by rw [Bd.returns] at h; cases h) (fun fs hr => retN X52 hx (t := .boolean) Bd.returns (by simp) (hb hby at_255) hr) ?_ (by decide) (by decide)
                show (own_Q0 Z i0 i1 i2 i3 i4 i5 ca cc bval h0 n0) (some (.int (1 : Int32))) T52.heap _
                rw [eq52]
                exact ⟨rfl, NF⟩
              by_cases c53 : z1 = z1
              · refine own_go (T' := T42) (g' := (mkF m 205 #[.val (.int i0), .val (.int i1), .val (.int i2), .val (.int i3), .val (.int i4), .val (.int i5), .val (.int z1), .val (.int b1), .val (.int x1), .val (.int z1), .val (.int z32), .val (.int kd), .val (.int z35), .val (.ref b38), .val (.ref b40), .unset] [])) (fun _ k => XS.icmpNo X42.here hx rfl (hb hby at_202) rfl (teq c53).2 k) ?_
                refine own_go (T' := T42) (g' := (mkF m 207 #[.val (.int i0), .val (.int i1), .val (.int i2), .val (.int i3), .val (.int i4), .val (.int i5), .val (.int z1), .val (.int b1), .val (.int x1), .val (.int z1), .val (.int z32), .val (.int kd), .val (.int z35), .val (.ref b38), .val (.ref b40), .unset] [(.int b1)])) (fun _ k => XS.iload X42.here hx rfl (hb hby at_205) rfl k) ?_
                refine own_go (T' := T42) (g' := (mkF m 209 #[.val (.int i0), .val (.int i1), .val (.int i2), .val (.int i3), .val (.int i4), .val (.int i5), .val (.int z1), .val (.int b1), .val (.int x1), .val (.int z1), .val (.int z32), .val (.int kd), .val (.int z35), .val (.ref b38), .val (.ref b40), .unset] [(.int z32), (.int b1)])) (fun _ k => XS.iload X42.here hx rfl (hb hby at_207) rfl k) ?_
                by_cases c54 : b1 = z32
                · refine own_go (T' := T42) (g' := (mkF m 212 #[.val (.int i0), .val (.int i1), .val (.int i2), .val (.int i3), .val (.int i4), .val (.int i5), .val (.int z1), .val (.int b1), .val (.int x1), .val (.int z1), .val (.int z32), .val (.int kd), .val (.int z35), .val (.ref b38), .val (.ref b40), .unset] [])) (fun _ k => XS.icmpNo X42.here hx rfl (hb hby at_209) rfl (teq c54).2 k) ?_
                  refine own_go (T' := T42) (g' := (mkF m 214 #[.val (.int i0), .val (.int i1), .val (.int i2), .val (.int i3), .val (.int i4), .val (.int i5), .val (.int z1), .val (.int b1), .val (.int x1), .val (.int z1), .val (.int z32), .val (.int kd), .val (.int z35), .val (.ref b38), .val (.ref b40), .unset] [(.int x1)])) (fun _ k => XS.iload X42.here hx rfl (hb hby at_212) rfl k) ?_
                  refine own_go (T' := T42) (g' := (mkF m 216 #[.val (.int i0), .val (.int i1), .val (.int i2), .val (.int i3), .val (.int i4), .val (.int i5), .val (.int z1), .val (.int b1), .val (.int x1), .val (.int z1), .val (.int z32), .val (.int kd), .val (.int z35), .val (.ref b38), .val (.ref b40), .unset] [(.int z35), (.int x1)])) (fun _ k => XS.iload X42.here hx rfl (hb hby at_214) rfl k) ?_
                  by_cases c55 : x1 = z35
                  · refine own_go (T' := T42) (g' := (mkF m 219 #[.val (.int i0), .val (.int i1), .val (.int i2), .val (.int i3), .val (.int i4), .val (.int i5), .val (.int z1), .val (.int b1), .val (.int x1), .val (.int z1), .val (.int z32), .val (.int kd), .val (.int z35), .val (.ref b38), .val (.ref b40), .unset] [])) (fun _ k => XS.icmpNo X42.here hx rfl (hb hby at_216) rfl (teq c55).2 k) ?_
                    refine own_go (T' := T42) (g' := (mkF m 220 #[.val (.int i0), .val (.int i1), .val (.int i2), .val (.int i3), .val (.int i4), .val (.int i5), .val (.int z1), .val (.int b1), .val (.int x1), .val (.int z1), .val (.int z32), .val (.int kd), .val (.int z35), .val (.ref b38), .val (.ref b40), .unset] [(.int (1 : Int32))])) (fun _ k => XS.iconst X42.here hx rfl (hb hby at_219) k) ?_
                    refine own_go (T' := T42) (g' := (mkF m 224 #[.val (.int i0), .val (.int i1), .val (.int i2), .val (.int i3), .val (.int i4), .val (.int i5), .val (.int z1), .val (.int b1), .val (.int x1), .val (.int z1), .val (.int z32), .val (.int kd), .val (.int z35), .val (.ref b38), .val (.ref b40), .unset] [(.int (1 : Int32))])) (fun _ k => XS.goto X42.here hx rfl (pc0 := 220) (pc' := 224) rfl (hb hby at_220) (by decide) (by decide) k) ?_
                    exact J50 _ (by (try simp only [own_ln128, own_l0, own_l1, own_l2, own_l3, own_l29, own_l31, own_l127, own_l128, own_l256, own_l2147483647, Int32.lt_iff_toInt_lt, ← Int32.toInt_inj, Int64.lt_iff_toInt_lt, ← Int64.toInt_inj, and_true, true_and, and_false, false_and, or_true, true_or, or_false, false_or, not_true_eq_false, not_false_eq_true, ne_eq, true_implies, false_implies, implies_true] at hz2 c4 hz33 hz36 c43 c45 c53 c54 c55 ⊢) <;> omega)
                  · refine own_go (T' := T42) (g' := (mkF m 223 #[.val (.int i0), .val (.int i1), .val (.int i2), .val (.int i3), .val (.int i4), .val (.int i5), .val (.int z1), .val (.int b1), .val (.int x1), .val (.int z1), .val (.int z32), .val (.int kd), .val (.int z35), .val (.ref b38), .val (.ref b40), .unset] [])) (fun _ k => XS.icmpYes X42.here hx rfl (pc0 := 216) (pc' := 223) rfl (hb hby at_216) rfl (feq c55).2 (by decide) (by decide) k) ?_
                    refine own_go (T' := T42) (g' := (mkF m 224 #[.val (.int i0), .val (.int i1), .val (.int i2), .val (.int i3), .val (.int i4), .val (.int i5), .val (.int z1), .val (.int b1), .val (.int x1), .val (.int z1), .val (.int z32), .val (.int kd), .val (.int z35), .val (.ref b38), .val (.ref b40), .unset] [(.int (0 : Int32))])) (fun _ k => XS.iconst X42.here hx rfl (hb hby at_223) k) ?_
                    exact J50 _ (by (try simp only [own_ln128, own_l0, own_l1, own_l2, own_l3, own_l29, own_l31, own_l127, own_l128, own_l256, own_l2147483647, Int32.lt_iff_toInt_lt, ← Int32.toInt_inj, Int64.lt_iff_toInt_lt, ← Int64.toInt_inj, and_true, true_and, and_false, false_and, or_true, true_or, or_false, false_or, not_true_eq_false, not_false_eq_true, ne_eq, true_implies, false_implies, implies_true] at hz2 c4 hz33 hz36 c43 c45 c53 c54 c55 ⊢) <;> omega)
                · refine own_go (T' := T42) (g' := (mkF m 223 #[.val (.int i0), .val (.int i1), .val (.int i2), .val (.int i3), .val (.int i4), .val (.int i5), .val (.int z1), .val (.int b1), .val (.int x1), .val (.int z1), .val (.int z32), .val (.int kd), .val (.int z35), .val (.ref b38), .val (.ref b40), .unset] [])) (fun _ k => XS.icmpYes X42.here hx rfl (pc0 := 209) (pc' := 223) rfl (hb hby at_209) rfl (feq c54).2 (by decide) (by decide) k) ?_
                  refine own_go (T' := T42) (g' := (mkF m 224 #[.val (.int i0), .val (.int i1), .val (.int i2), .val (.int i3), .val (.int i4), .val (.int i5), .val (.int z1), .val (.int b1), .val (.int x1), .val (.int z1), .val (.int z32), .val (.int kd), .val (.int z35), .val (.ref b38), .val (.ref b40), .unset] [(.int (0 : Int32))])) (fun _ k => XS.iconst X42.here hx rfl (hb hby at_223) k) ?_
                  exact J50 _ (by (try simp only [own_ln128, own_l0, own_l1, own_l2, own_l3, own_l29, own_l31, own_l127, own_l128, own_l256, own_l2147483647, Int32.lt_iff_toInt_lt, ← Int32.toInt_inj, Int64.lt_iff_toInt_lt, ← Int64.toInt_inj, and_true, true_and, and_false, false_and, or_true, true_or, or_false, false_or, not_true_eq_false, not_false_eq_true, ne_eq, true_implies, false_implies, implies_true] at hz2 c4 hz33 hz36 c43 c45 c53 c54 ⊢) <;> omega)
              · refine own_go (T' := T42) (g' := (mkF m 223 #[.val (.int i0), .val (.int i1), .val (.int i2), .val (.int i3), .val (.int i4), .val (.int i5), .val (.int z1), .val (.int b1), .val (.int x1), .val (.int z1), .val (.int z32), .val (.int kd), .val (.int z35), .val (.ref b38), .val (.ref b40), .unset] [])) (fun _ k => XS.icmpYes X42.here hx rfl (pc0 := 202) (pc' := 223) rfl (hb hby at_202) rfl (feq c53).2 (by decide) (by decide) k) ?_
                refine own_go (T' := T42) (g' := (mkF m 224 #[.val (.int i0), .val (.int i1), .val (.int i2), .val (.int i3), .val (.int i4), .val (.int i5), .val (.int z1), .val (.int b1), .val (.int x1), .val (.int z1), .val (.int z32), .val (.int kd), .val (.int z35), .val (.ref b38), .val (.ref b40), .unset] [(.int (0 : Int32))])) (fun _ k => XS.iconst X42.here hx rfl (hb hby at_223) k) ?_
                exact J50 _ (by (try simp only [own_ln128, own_l0, own_l1, own_l2, own_l3, own_l29, own_l31, own_l127, own_l128, own_l256, own_l2147483647, Int32.lt_iff_toInt_lt, ← Int32.toInt_inj, Int64.lt_iff_toInt_lt, ← Int64.toInt_inj, and_true, true_and, and_false, false_and, or_true, true_or, or_false, false_or, not_true_eq_false, not_false_eq_true, ne_eq, true_implies, false_implies, implies_true] at hz2 c4 hz33 hz36 c43 c45 c53 ⊢) <;> omega)
        by_cases c56 : (i5 &&& (1 : Int32)) = (0 : Int32)
        · refine own_go (T' := s₁) (g' := (mkF m 99 #[.val (.int i0), .val (.int i1), .val (.int i2), .val (.int i3), .val (.int i4), .val (.int i5), .val (.int z1), .val (.int b1), .val (.int x1), .val (.int z1), .val (.int z32), .val (.int kd), .unset, .unset, .unset, .unset] [])) (fun _ k => XS.ifYes X0.here hx rfl (pc0 := 91) (pc' := 99) rfl (hb hby at_91) rfl ((if0 _ _).trans (teq c56).1) (by decide) (by decide) k) ?_
          refine own_go (T' := s₁) (g' := (mkF m 101 #[.val (.int i0), .val (.int i1), .val (.int i2), .val (.int i3), .val (.int i4), .val (.int i5), .val (.int z1), .val (.int b1), .val (.int x1), .val (.int z1), .val (.int z32), .val (.int kd), .unset, .unset, .unset, .unset] [(.int i5)])) (fun _ k => XS.iload X0.here hx rfl (hb hby at_99) rfl k) ?_
          refine own_go (T' := s₁) (g' := (mkF m 102 #[.val (.int i0), .val (.int i1), .val (.int i2), .val (.int i3), .val (.int i4), .val (.int i5), .val (.int z1), .val (.int b1), .val (.int x1), .val (.int z1), .val (.int z32), .val (.int kd), .unset, .unset, .unset, .unset] [(.int (3 : Int32)), (.int i5)])) (fun _ k => XS.iconst X0.here hx rfl (hb hby at_101) k) ?_
          refine own_go (T' := s₁) (g' := (mkF m 103 #[.val (.int i0), .val (.int i1), .val (.int i2), .val (.int i3), .val (.int i4), .val (.int i5), .val (.int z1), .val (.int b1), .val (.int x1), .val (.int z1), .val (.int z32), .val (.int kd), .unset, .unset, .unset, .unset] [(.int ((i5.toUInt32 >>> ((3 : Int32) &&& 31).toUInt32).toInt32))])) (fun _ k => XS.iushr X0.here hx rfl (hb hby at_102) rfl k) ?_
          refine own_go (T' := s₁) (g' := (mkF m 105 #[.val (.int i0), .val (.int i1), .val (.int i2), .val (.int i3), .val (.int i4), .val (.int i5), .val (.int z1), .val (.int b1), .val (.int x1), .val (.int z1), .val (.int z32), .val (.int kd), .unset, .unset, .unset, .unset] [(.int (29 : Int32)), (.int ((i5.toUInt32 >>> ((3 : Int32) &&& 31).toUInt32).toInt32))])) (fun _ k => XS.bipush X0.here hx rfl (hb hby at_103) k) ?_
          refine own_go (T' := s₁) (g' := (mkF m 106 #[.val (.int i0), .val (.int i1), .val (.int i2), .val (.int i3), .val (.int i4), .val (.int i5), .val (.int z1), .val (.int b1), .val (.int x1), .val (.int z1), .val (.int z32), .val (.int kd), .unset, .unset, .unset, .unset] [(.int (((i5.toUInt32 >>> ((3 : Int32) &&& 31).toUInt32).toInt32) % (29 : Int32)))])) (fun _ k => iremM X0 hx rfl (hb hby at_105) rfl (by decide) k) ?_
          refine own_go (T' := s₁) (g' := (mkF m 107 #[.val (.int i0), .val (.int i1), .val (.int i2), .val (.int i3), .val (.int i4), .val (.int i5), .val (.int z1), .val (.int b1), .val (.int x1), .val (.int z1), .val (.int z32), .val (.int kd), .unset, .unset, .unset, .unset] [(.int (1 : Int32)), (.int (((i5.toUInt32 >>> ((3 : Int32) &&& 31).toUInt32).toInt32) % (29 : Int32)))])) (fun _ k => XS.iconst X0.here hx rfl (hb hby at_106) k) ?_
          refine own_go (T' := s₁) (g' := (mkF m 108 #[.val (.int i0), .val (.int i1), .val (.int i2), .val (.int i3), .val (.int i4), .val (.int i5), .val (.int z1), .val (.int b1), .val (.int x1), .val (.int z1), .val (.int z32), .val (.int kd), .unset, .unset, .unset, .unset] [(.int ((((i5.toUInt32 >>> ((3 : Int32) &&& 31).toUInt32).toInt32) % (29 : Int32)) + (1 : Int32)))])) (fun _ k => XS.iadd X0.here hx rfl (hb hby at_107) rfl k) ?_
          exact J37 _ (by (try simp only [own_ln128, own_l0, own_l1, own_l2, own_l3, own_l29, own_l31, own_l127, own_l128, own_l256, own_l2147483647, Int32.lt_iff_toInt_lt, ← Int32.toInt_inj, Int64.lt_iff_toInt_lt, ← Int64.toInt_inj, and_true, true_and, and_false, false_and, or_true, true_or, or_false, false_or, not_true_eq_false, not_false_eq_true, ne_eq, true_implies, false_implies, implies_true] at hz2 c4 hz33 c56 ⊢) <;> omega)
        · refine own_go (T' := s₁) (g' := (mkF m 94 #[.val (.int i0), .val (.int i1), .val (.int i2), .val (.int i3), .val (.int i4), .val (.int i5), .val (.int z1), .val (.int b1), .val (.int x1), .val (.int z1), .val (.int z32), .val (.int kd), .unset, .unset, .unset, .unset] [])) (fun _ k => XS.ifNo X0.here hx rfl (hb hby at_91) rfl ((if0 _ _).trans (feq c56).1) k) ?_
          refine own_go (T' := s₁) (g' := (mkF m 96 #[.val (.int i0), .val (.int i1), .val (.int i2), .val (.int i3), .val (.int i4), .val (.int i5), .val (.int z1), .val (.int b1), .val (.int x1), .val (.int z1), .val (.int z32), .val (.int kd), .unset, .unset, .unset, .unset] [(.int x1)])) (fun _ k => XS.iload X0.here hx rfl (hb hby at_94) rfl k) ?_
          refine own_go (T' := s₁) (g' := (mkF m 108 #[.val (.int i0), .val (.int i1), .val (.int i2), .val (.int i3), .val (.int i4), .val (.int i5), .val (.int z1), .val (.int b1), .val (.int x1), .val (.int z1), .val (.int z32), .val (.int kd), .unset, .unset, .unset, .unset] [(.int x1)])) (fun _ k => XS.goto X0.here hx rfl (pc0 := 96) (pc' := 108) rfl (hb hby at_96) (by decide) (by decide) k) ?_
          exact J37 _ (by (try simp only [own_ln128, own_l0, own_l1, own_l2, own_l3, own_l29, own_l31, own_l127, own_l128, own_l256, own_l2147483647, Int32.lt_iff_toInt_lt, ← Int32.toInt_inj, Int64.lt_iff_toInt_lt, ← Int64.toInt_inj, and_true, true_and, and_false, false_and, or_true, true_or, or_false, false_or, not_true_eq_false, not_false_eq_true, ne_eq, true_implies, false_implies, implies_true] at hz2 c4 hz33 c56 ⊢) <;> omega)
      by_cases c57 : (i4 &&& (1 : Int32)) = (0 : Int32)
      · refine own_go (T' := s₁) (g' := (mkF m 68 #[.val (.int i0), .val (.int i1), .val (.int i2), .val (.int i3), .val (.int i4), .val (.int i5), .val (.int z1), .val (.int b1), .val (.int x1), .val (.int z1), .unset, .unset, .unset, .unset, .unset, .unset] [])) (fun _ k => XS.ifYes X0.here hx rfl (pc0 := 60) (pc' := 68) rfl (hb hby at_60) rfl ((if0 _ _).trans (teq c57).1) (by decide) (by decide) k) ?_
        refine own_go (T' := s₁) (g' := (mkF m 70 #[.val (.int i0), .val (.int i1), .val (.int i2), .val (.int i3), .val (.int i4), .val (.int i5), .val (.int z1), .val (.int b1), .val (.int x1), .val (.int z1), .unset, .unset, .unset, .unset, .unset, .unset] [(.int i4)])) (fun _ k => XS.iload X0.here hx rfl (hb hby at_68) rfl k) ?_
        refine own_go (T' := s₁) (g' := (mkF m 71 #[.val (.int i0), .val (.int i1), .val (.int i2), .val (.int i3), .val (.int i4), .val (.int i5), .val (.int z1), .val (.int b1), .val (.int x1), .val (.int z1), .unset, .unset, .unset, .unset, .unset, .unset] [(.int (1 : Int32)), (.int i4)])) (fun _ k => XS.iconst X0.here hx rfl (hb hby at_70) k) ?_
        refine own_go (T' := s₁) (g' := (mkF m 72 #[.val (.int i0), .val (.int i1), .val (.int i2), .val (.int i3), .val (.int i4), .val (.int i5), .val (.int z1), .val (.int b1), .val (.int x1), .val (.int z1), .unset, .unset, .unset, .unset, .unset, .unset] [(.int ((i4.toUInt32 >>> ((1 : Int32) &&& 31).toUInt32).toInt32))])) (fun _ k => XS.iushr X0.here hx rfl (hb hby at_71) rfl k) ?_
        refine own_go (T' := s₁) (g' := (mkF m 74 #[.val (.int i0), .val (.int i1), .val (.int i2), .val (.int i3), .val (.int i4), .val (.int i5), .val (.int z1), .val (.int b1), .val (.int x1), .val (.int z1), .unset, .unset, .unset, .unset, .unset, .unset] [(.int (31 : Int32)), (.int ((i4.toUInt32 >>> ((1 : Int32) &&& 31).toUInt32).toInt32))])) (fun _ k => XS.bipush X0.here hx rfl (hb hby at_72) k) ?_
        refine own_go (T' := s₁) (g' := (mkF m 75 #[.val (.int i0), .val (.int i1), .val (.int i2), .val (.int i3), .val (.int i4), .val (.int i5), .val (.int z1), .val (.int b1), .val (.int x1), .val (.int z1), .unset, .unset, .unset, .unset, .unset, .unset] [(.int (((i4.toUInt32 >>> ((1 : Int32) &&& 31).toUInt32).toInt32) % (31 : Int32)))])) (fun _ k => iremM X0 hx rfl (hb hby at_74) rfl (by decide) k) ?_
        refine own_go (T' := s₁) (g' := (mkF m 76 #[.val (.int i0), .val (.int i1), .val (.int i2), .val (.int i3), .val (.int i4), .val (.int i5), .val (.int z1), .val (.int b1), .val (.int x1), .val (.int z1), .unset, .unset, .unset, .unset, .unset, .unset] [(.int (1 : Int32)), (.int (((i4.toUInt32 >>> ((1 : Int32) &&& 31).toUInt32).toInt32) % (31 : Int32)))])) (fun _ k => XS.iconst X0.here hx rfl (hb hby at_75) k) ?_
        refine own_go (T' := s₁) (g' := (mkF m 77 #[.val (.int i0), .val (.int i1), .val (.int i2), .val (.int i3), .val (.int i4), .val (.int i5), .val (.int z1), .val (.int b1), .val (.int x1), .val (.int z1), .unset, .unset, .unset, .unset, .unset, .unset] [(.int ((((i4.toUInt32 >>> ((1 : Int32) &&& 31).toUInt32).toInt32) % (31 : Int32)) + (1 : Int32)))])) (fun _ k => XS.iadd X0.here hx rfl (hb hby at_76) rfl k) ?_
        exact J34 _ (by (try simp only [own_ln128, own_l0, own_l1, own_l2, own_l3, own_l29, own_l31, own_l127, own_l128, own_l256, own_l2147483647, Int32.lt_iff_toInt_lt, ← Int32.toInt_inj, Int64.lt_iff_toInt_lt, ← Int64.toInt_inj, and_true, true_and, and_false, false_and, or_true, true_or, or_false, false_or, not_true_eq_false, not_false_eq_true, ne_eq, true_implies, false_implies, implies_true] at hz2 c4 c57 ⊢) <;> omega)
      · refine own_go (T' := s₁) (g' := (mkF m 63 #[.val (.int i0), .val (.int i1), .val (.int i2), .val (.int i3), .val (.int i4), .val (.int i5), .val (.int z1), .val (.int b1), .val (.int x1), .val (.int z1), .unset, .unset, .unset, .unset, .unset, .unset] [])) (fun _ k => XS.ifNo X0.here hx rfl (hb hby at_60) rfl ((if0 _ _).trans (feq c57).1) k) ?_
        refine own_go (T' := s₁) (g' := (mkF m 65 #[.val (.int i0), .val (.int i1), .val (.int i2), .val (.int i3), .val (.int i4), .val (.int i5), .val (.int z1), .val (.int b1), .val (.int x1), .val (.int z1), .unset, .unset, .unset, .unset, .unset, .unset] [(.int b1)])) (fun _ k => XS.iload X0.here hx rfl (hb hby at_63) rfl k) ?_
        refine own_go (T' := s₁) (g' := (mkF m 77 #[.val (.int i0), .val (.int i1), .val (.int i2), .val (.int i3), .val (.int i4), .val (.int i5), .val (.int z1), .val (.int b1), .val (.int x1), .val (.int z1), .unset, .unset, .unset, .unset, .unset, .unset] [(.int b1)])) (fun _ k => XS.goto X0.here hx rfl (pc0 := 65) (pc' := 77) rfl (hb hby at_65) (by decide) (by decide) k) ?_
        exact J34 _ (by (try simp only [own_ln128, own_l0, own_l1, own_l2, own_l3, own_l29, own_l31, own_l127, own_l128, own_l256, own_l2147483647, Int32.lt_iff_toInt_lt, ← Int32.toInt_inj, Int64.lt_iff_toInt_lt, ← Int64.toInt_inj, and_true, true_and, and_false, false_and, or_true, true_or, or_false, false_or, not_true_eq_false, not_false_eq_true, ne_eq, true_implies, false_implies, implies_true] at hz2 c4 c57 ⊢) <;> omega)
  by_cases c58 : (i0 &&& (2147483647 : Int32)) = (0 : Int32)
  · refine own_go (T' := s₁) (g' := (mkF m 11 #[.val (.int i0), .val (.int i1), .val (.int i2), .val (.int i3), .val (.int i4), .val (.int i5), .val (.int (i0 &&& (2147483647 : Int32))), .unset, .unset, .unset, .unset, .unset, .unset, .unset, .unset, .unset] [])) (fun _ k => XS.ifNo X0.here hx rfl (hb hby at_8) rfl ((if0 _ _).trans (teq c58).2) k) ?_
    refine own_go (T' := s₁) (g' := (mkF m 12 #[.val (.int i0), .val (.int i1), .val (.int i2), .val (.int i3), .val (.int i4), .val (.int i5), .val (.int (i0 &&& (2147483647 : Int32))), .unset, .unset, .unset, .unset, .unset, .unset, .unset, .unset, .unset] [(.int (1 : Int32))])) (fun _ k => XS.iconst X0.here hx rfl (hb hby at_11) k) ?_
    refine own_go (T' := s₁) (g' := (mkF m 14 #[.val (.int i0), .val (.int i1), .val (.int i2), .val (.int i3), .val (.int i4), .val (.int i5), .val (.int (1 : Int32)), .unset, .unset, .unset, .unset, .unset, .unset, .unset, .unset, .unset] [])) (fun _ k => XS.istore X0.here hx rfl (hb hby at_12) rfl (l' := #[.val (.int i0), .val (.int i1), .val (.int i2), .val (.int i3), .val (.int i4), .val (.int i5), .val (.int (1 : Int32)), .unset, .unset, .unset, .unset, .unset, .unset, .unset, .unset, .unset]) rfl k) ?_
    exact J3 _ (by (try simp only [own_ln128, own_l0, own_l1, own_l2, own_l3, own_l29, own_l31, own_l127, own_l128, own_l256, own_l2147483647, Int32.lt_iff_toInt_lt, ← Int32.toInt_inj, Int64.lt_iff_toInt_lt, ← Int64.toInt_inj, and_true, true_and, and_false, false_and, or_true, true_or, or_false, false_or, not_true_eq_false, not_false_eq_true, ne_eq, true_implies, false_implies, implies_true] at c58 ⊢) <;> omega)
  · refine own_go (T' := s₁) (g' := (mkF m 14 #[.val (.int i0), .val (.int i1), .val (.int i2), .val (.int i3), .val (.int i4), .val (.int i5), .val (.int (i0 &&& (2147483647 : Int32))), .unset, .unset, .unset, .unset, .unset, .unset, .unset, .unset, .unset] [])) (fun _ k => XS.ifYes X0.here hx rfl (pc0 := 8) (pc' := 14) rfl (hb hby at_8) rfl ((if0 _ _).trans (feq c58).2) (by decide) (by decide) k) ?_
    exact J3 _ (by (try simp only [own_ln128, own_l0, own_l1, own_l2, own_l3, own_l29, own_l31, own_l127, own_l128, own_l256, own_l2147483647, Int32.lt_iff_toInt_lt, ← Int32.toInt_inj, Int64.lt_iff_toInt_lt, ← Int64.toInt_inj, and_true, true_and, and_false, false_and, or_true, true_or, or_false, false_or, not_true_eq_false, not_false_eq_true, ne_eq, true_implies, false_implies, implies_true] at c58 ⊢) <;> omega)
set_option maxRecDepth 65536 in
set_option maxHeartbeats 40000000 in
theorem own_comes {Post : Tables → Env → Array Value → State → Outcome → State → Prop} (hpost : ∀ tb e args s v u, (limb_1_1.after args s (.returned v) u = true ∧ limb_1_2.after args s (.returned v) u = true ∧ True) → FrameEnd s (.returned v) u (Jvm.fieldLocs frame_1_writes args s ++ Jvm.arrayLocs frame_1_arrays args s ++ Jvm.staticLocs frame_1_statics s) 16 128 → Post tb e args s (.returned v) u) :
    ArmFor flags0 classFile x code maxLocals ret World_1 tables_1 room_1 Calls_1 rest_1 Pre_1 Post := by
  intro l hfl _ _ p e ha hc hk s m args below hf hA hF happ hP
  obtain ⟨hcalls, hrest, hpre⟩ := hP
  obtain ⟨-, -, -, hnamed, -, -, -, hat⟩ := (Spec.applies_iff hf).mp happ
  obtain ⟨hg, hn⟩ := and_e (Cond.before_iff.mp (show (Jvm.Cond.and given_1 narrow_1).before args s = true from hpre))
  obtain ⟨gg1, gg2⟩ := and_e hg
  obtain ⟨gg3, gg4⟩ := and_e gg2
  obtain ⟨gg5, gg6⟩ := and_e gg4
  obtain ⟨gg7, gg8⟩ := and_e gg6
  obtain ⟨gg9, gg10⟩ := and_e gg8
  obtain ⟨gg11, gg12⟩ := and_e gg10
  obtain ⟨w0, w1, w2, w3, w4, w5, rfl⟩ : ∃ w0 w1 w2 w3 w4 w5 : Value, args = #[w0, w1, w2, w3, w4, w5] := by
    have hs : args.size = 6 := by simpa [Cond.value, given_1] using gg1
    obtain ⟨L⟩ := args
    match L, hs with
    | [w0, w1, w2, w3, w4, w5], _ => exact ⟨w0, w1, w2, w3, w4, w5, rfl⟩
  have hw := fun d (hd : d ∈ tables_1) => atoms_spec (ws := Jvm.Cond.code x code maxLocals ret :: tables_1) hat d (List.mem_cons_of_mem _ hd)
  have hfit : Fit s := fun {y c} hc i hi => by
    obtain ⟨ha, rfl⟩ := Array.getElem?_eq_some_iff.mp hc
    have q := List.all_eq_true.mp ((Array.all_eq_true_iff_forall_mem.mp hF) _ (Array.getElem_mem ha)) i (List.mem_range.mpr hi)
    simpa [Array.getElem?_eq_getElem hi] using q
  obtain ⟨hsets, hown0⟩ := atoms_of _ (rest_1_c_eq ▸ (show rest_1_c.before _ s = true from hrest))
  have hr0 := Cond.before_iff.mp hown0
  obtain ⟨i0, ei0⟩ := is_v gg3
  obtain rfl : w0 = (.int i0) := Option.some.inj ei0
  obtain ⟨i1, ei1⟩ := is_v gg5
  obtain rfl : w1 = (.int i1) := Option.some.inj ei1
  obtain ⟨i2, ei2⟩ := is_v gg7
  obtain rfl : w2 = (.int i2) := Option.some.inj ei2
  obtain ⟨i3, ei3⟩ := is_v gg9
  obtain rfl : w3 = (.int i3) := Option.some.inj ei3
  obtain ⟨i4, ei4⟩ := is_v gg11
  obtain rfl : w4 = (.int i4) := Option.some.inj ei4
  obtain ⟨i5, ei5⟩ := is_v gg12
  obtain rfl : w5 = (.int i5) := Option.some.inj ei5
  have w3 := Cond.before_iff.mp (hsets _ (List.mem_of_getElem? (i := 3) rfl))
  have S_high := Sta.start (Z := s) (eqv_i (Term.int_eval (127)) w3) (Or.inl (hsets _ (List.mem_of_getElem? (i := 1) rfl)))
  have w4 := Cond.before_iff.mp (hsets _ (List.mem_of_getElem? (i := 4) rfl))
  obtain ⟨ca, eca⟩ := arr_v w4
  have S_cache := Sta.start (Z := s) eca (Or.inr ⟨hw _ (List.mem_of_getElem? (i := 32) rfl), hsets _ (List.mem_of_getElem? (i := 2) rfl)⟩)
  obtain ⟨cc, Ar_c⟩ := Arr.start eca w4
  have w6 := eqv_i (Term.int_eval (256)) (Cond.before_iff.mp (hsets _ (List.mem_of_getElem? (i := 6) rfl)))
  have l6 := own_len31 eca (Ar_c.fin (Vm.Alike.refl _)) w6
  have BX := Bxs.start (z := (256 : Int32)) (val := fun j => .int (j - 128)) (fun idx => (own_static_idx idx).trans eca) Ar_c l6.1 (Value.int.inj l6.2) (by decide) (Cond.before_iff.mp (hsets _ (List.mem_of_getElem? (i := 7) rfl))) (fun X j nn h => eqv_i (own_sub_idx nn) h)
  have OL := Old.start s
  obtain ⟨n, o, h1, h2, h3, _, L, rfl, ⟨rfl, N⟩, hq⟩ := own_rm0 l s _ hw tables_1 i0 i1 i2 i3 i4 i5 ca cc _ s.heap s.heap.size (Nat.le_refl _) OL S_high S_cache BX p e ha hc hk s m _ below hf ((Spec.applies_iff_loose hf).mp happ).1 ⟨rfl, State.Warmed39.refl s, rfl⟩ trivial
  refine ⟨n, _, h1, h2, h3, hpost _ _ _ _ _ _ ⟨Cond.after_iff.mpr rfl, Cond.after_iff.mpr (eq_i res_at (Term.int_eval (1)) rfl), trivial⟩ ⟨hq.1, hq.2.1, (hq.2.2.sift fun y hy => Or.inr (N y hy)).mono (by decide) (by decide)⟩⟩
theorem main_1_1 : Claimed_1_1 := own_comes fun _ _ _ _ _ _ h hF => ⟨h.1, hF⟩
theorem main_1_2 : Claimed_1_2 := own_comes fun _ _ _ _ _ _ h hF => ⟨h.2.1, hF⟩
end Jvm.Pilot.@@N@@
namespace Jvm.Pilot.@@N@@
open Jvm Jvm.ClassFile Sem Op Lib Jvm.Free Jvm.Stand Jvm.Pilot.@@N@@.Jvm.D
/-! MADE BY PROGRAM (witnessworld.py) out of the Statement's table words and the real class files: 17 classes; the members and pool entries that the words name. The judged class is class 1, her method 1. -/
namespace start1
open Jvm.ClassFile
def u (s : String) : CpInfo := .utf8 (stringToUtf16 s)
/-- a pool by its gaps: so many unusable entries, then the entry; so many at the end -/
def gap : Nat → List CpInfo → List CpInfo
  | 0, r => r
  | n + 1, r => .unusable :: gap n r
def poolList (es : List (Nat × CpInfo)) (last : Nat) : List CpInfo := es.foldr (fun e r => gap e.1 (e.2 :: r)) (gap last [])
def pool (es : List (Nat × CpInfo)) (last : Nat) : Array CpInfo := ⟨poolList es last⟩
def fileOf (pool : Array CpInfo) (this : Nat) (attrs : Array Attribute := #[]) (ms : Array MethodInfo := #[]) (fl : Nat := 33) (sup : Nat := 0) (ifs : Array Nat := #[]) (fds : Array FieldInfo := #[]) : ClassFile where
  minorVersion := 0
  majorVersion := 65
  constantPool := pool
  accessFlags := fl
  thisClass := this
  superClass := sup
  interfaces := ifs
  fields := fds
  methods := ms
  attributes := attrs
def plain (name : String) (sup : Option ClassId) : Class where
  name := name
  kind := .ordinary
  loader := none
  accessFlags := 33
  super := sup
  interfaces := #[]
  cf := none
  fields := #[]
  methods := #[]
  instanceTypes := #[]
  staticTypes := #[]
  resolved := #[]
  callSites := []
  init := .initialized
  statics := none
  mirror := none

def pool0 : Array CpInfo := pool [(5, u "<init>"), (0, u "()V"), (1, .class_ 10), (1, u "java/lang/Object")] 113

def k0c0 : Code := { maxStack := 0, maxLocals := 1, code := object_method_1_code, exceptionTable := #[], attributes := #[] }
def k0m0 : Method := { name := "<init>", desc := "()V", sig := { parameters := [], returnType := none }, accessFlags := 1, code := some k0c0 }
/-- java/lang/Object -/
def k0 : Class := { plain "java/lang/Object" none with
  accessFlags := 33
  interfaces := #[]
  cf := some (fileOf pool0 8 #[] #[{ accessFlags := 1, nameIndex := 5, descriptorIndex := 6, attributes := #[] }] 33 0 #[] #[])
  fields := #[]
  methods := #[k0m0]
  instanceTypes := #[]
  staticTypes := #[]
  resolved := Array.replicate 124 none
  statics := none }

def pool1 : Array CpInfo := pool [(2, .class_ 4), (1, u "java/lang/Object"), (0, u "<init>"), (0, u "()V"), (0, .integer 2147483647), (0, .methodref 9 10), (0, .class_ 11), (0, .nameAndType 12 13), (0, u "java/lang/Math"), (0, u "max"), (0, u "(II)I"), (0, .class_ 15), (0, u "com/example/godwit/godwit/StoreSettings"), (0, .methodref 14 17), (0, .nameAndType 5 18), (0, u "(III)V"), (0, .methodref 14 20), (0, .nameAndType 21 22), (0, u "equals"), (0, u "(Ljava/lang/Object;)Z"), (0, .methodref 24 25), (0, .class_ 26), (0, .nameAndType 27 28), (0, u "java/lang/Integer"), (0, u "valueOf"), (0, u "(I)Ljava/lang/Integer;"), (0, .class_ 30), (0, u "com/example/godwit/godwit/StoreSettingsEqualsPinLaw"), (2, u "law"), (0, u "(IIIIII)Z")] 3

def k1m0 : Method := { name := "<init>", desc := "()V", sig := { parameters := [], returnType := none }, accessFlags := 1, code := none }
def k1c1 : Code := { maxStack := 5, maxLocals := 16, code := code, exceptionTable := #[], attributes := #[] }
def k1m1 : Method := { name := "law", desc := "(IIIIII)Z", sig := { parameters := [.int, .int, .int, .int, .int, .int], returnType := some .boolean }, accessFlags := 9, code := some k1c1 }
/-- com/example/godwit/godwit/StoreSettingsEqualsPinLaw -/
def k1 : Class := { plain "com/example/godwit/godwit/StoreSettingsEqualsPinLaw" (some 0) with
  accessFlags := 49
  interfaces := #[]
  cf := some (fileOf pool1 29 #[] #[{ accessFlags := 1, nameIndex := 5, descriptorIndex := 6, attributes := #[] }, { accessFlags := 9, nameIndex := 33, descriptorIndex := 34, attributes := #[] }] 49 2 #[] #[])
  fields := #[]
  methods := #[k1m0, k1m1]
  instanceTypes := #[]
  staticTypes := #[]
  resolved := Array.replicate 38 none
  statics := none }

def pool2 : Array CpInfo := pool [(1, .methodref 2 3), (0, .class_ 4), (0, .nameAndType 5 6), (0, u "java/lang/Object"), (0, u "<init>"), (0, u "()V"), (15, .fieldref 23 24), (0, .class_ 25), (0, .nameAndType 26 27), (0, u "com/example/godwit/godwit/StoreSettings"), (0, u "timeBinSeconds"), (0, u "I"), (0, .fieldref 23 29), (0, .nameAndType 30 27), (0, u "hilbertBits"), (0, .fieldref 23 32), (0, .nameAndType 33 27), (0, u "xzResolution"), (44, u "(III)V"), (2, u "DEFAULTS"), (0, u "Lcom/example/godwit/godwit/StoreSettings;"), (0, u "DEFAULT_TIME_BIN_SECONDS"), (2, u "DEFAULT_HILBERT_BITS"), (1, u "DEFAULT_XZ_RESOLUTION"), (10, u "equals"), (0, u "(Ljava/lang/Object;)Z")] 24

def k2c0 : Code := { maxStack := 3, maxLocals := 4, code := prog_19_method_1_code, exceptionTable := #[], attributes := #[] }
def k2m0 : Method := { name := "<init>", desc := "(III)V", sig := { parameters := [.int, .int, .int], returnType := none }, accessFlags := 1, code := some k2c0 }
def k2c1 : Code := { maxStack := 2, maxLocals := 3, code := prog_19_method_6_code, exceptionTable := #[], attributes := #[] }
def k2m1 : Method := { name := "equals", desc := "(Ljava/lang/Object;)Z", sig := { parameters := [(.object "java/lang/Object")], returnType := some .boolean }, accessFlags := 1, code := some k2c1 }
/-- com/example/godwit/godwit/StoreSettings -/
def k2 : Class := { plain "com/example/godwit/godwit/StoreSettings" (some 0) with
  accessFlags := 49
  interfaces := #[]
  cf := some (fileOf pool2 23 #[] #[{ accessFlags := 1, nameIndex := 5, descriptorIndex := 78, attributes := #[] }, { accessFlags := 1, nameIndex := 99, descriptorIndex := 100, attributes := #[] }] 49 2 #[] #[{ accessFlags := 25, nameIndex := 83, descriptorIndex := 27, attributes := #[] }, { accessFlags := 25, nameIndex := 86, descriptorIndex := 27, attributes := #[] }, { accessFlags := 25, nameIndex := 88, descriptorIndex := 27, attributes := #[] }, { accessFlags := 25, nameIndex := 81, descriptorIndex := 82, attributes := #[] }, { accessFlags := 18, nameIndex := 26, descriptorIndex := 27, attributes := #[] }, { accessFlags := 18, nameIndex := 30, descriptorIndex := 27, attributes := #[] }, { accessFlags := 18, nameIndex := 33, descriptorIndex := 27, attributes := #[] }])
  fields := #[{ name := "DEFAULT_TIME_BIN_SECONDS", type := .int, accessFlags := 25, slot := 0, constantValue := 0 }, { name := "DEFAULT_HILBERT_BITS", type := .int, accessFlags := 25, slot := 1, constantValue := 0 }, { name := "DEFAULT_XZ_RESOLUTION", type := .int, accessFlags := 25, slot := 2, constantValue := 0 }, { name := "DEFAULTS", type := (.object "com/example/godwit/godwit/StoreSettings"), accessFlags := 25, slot := 3, constantValue := 0 }, { name := "timeBinSeconds", type := .int, accessFlags := 18, slot := 0, constantValue := 0 }, { name := "hilbertBits", type := .int, accessFlags := 18, slot := 1, constantValue := 0 }, { name := "xzResolution", type := .int, accessFlags := 18, slot := 2, constantValue := 0 }]
  methods := #[k2m0, k2m1]
  instanceTypes := #[.int, .int, .int]
  staticTypes := #[.int, .int, .int, (.object "com/example/godwit/godwit/StoreSettings")]
  resolved := Array.replicate 125 none
  statics := none }

def pool3 : Array CpInfo := pool [(1, .class_ 2), (0, u "java/lang/Math"), (1, .class_ 6), (1, u "java/lang/Object"), (0, u "<init>"), (0, u "()V"), (89, .class_ 100), (1, u "java/lang/Math$RandomNumberGeneratorHolder"), (71, u "negativeZeroFloatBits"), (0, u "J"), (2, u "negativeZeroDoubleBits"), (21, u "max"), (46, u "$assertionsDisabled"), (0, u "Z"), (88, u "(II)I"), (2, u "twoToTheDoubleScaleDown"), (0, u "D"), (4, u "twoToTheDoubleScaleUp"), (9, u "E"), (3, u "PI"), (2, u "TAU"), (2, u "DEGREES_TO_RADIANS"), (0, u "RADIANS_TO_DEGREES")] 94

def k3m0 : Method := { name := "<init>", desc := "()V", sig := { parameters := [], returnType := none }, accessFlags := 2, code := none }
def k3c1 : Code := { maxStack := 2, maxLocals := 2, code := jdk_29_method_65_code, exceptionTable := #[], attributes := #[] }
def k3m1 : Method := { name := "max", desc := "(II)I", sig := { parameters := [.int, .int], returnType := some .int }, accessFlags := 9, code := some k3c1 }
/-- java/lang/Math -/
def k3 : Class := { plain "java/lang/Math" (some 0) with
  accessFlags := 49
  interfaces := #[]
  cf := some (fileOf pool3 1 #[.nestMembers #[98]] #[{ accessFlags := 2, nameIndex := 7, descriptorIndex := 8, attributes := #[] }, { accessFlags := 9, nameIndex := 198, descriptorIndex := 335, attributes := #[] }] 49 4 #[] #[{ accessFlags := 25, nameIndex := 354, descriptorIndex := 339, attributes := #[] }, { accessFlags := 25, nameIndex := 358, descriptorIndex := 339, attributes := #[] }, { accessFlags := 25, nameIndex := 361, descriptorIndex := 339, attributes := #[] }, { accessFlags := 26, nameIndex := 364, descriptorIndex := 339, attributes := #[] }, { accessFlags := 26, nameIndex := 365, descriptorIndex := 339, attributes := #[] }, { accessFlags := 26, nameIndex := 172, descriptorIndex := 173, attributes := #[] }, { accessFlags := 26, nameIndex := 176, descriptorIndex := 173, attributes := #[] }, { accessFlags := 8, nameIndex := 344, descriptorIndex := 339, attributes := #[] }, { accessFlags := 8, nameIndex := 338, descriptorIndex := 339, attributes := #[] }, { accessFlags := 4120, nameIndex := 245, descriptorIndex := 246, attributes := #[] }])
  fields := #[{ name := "E", type := .double, accessFlags := 25, slot := 0, constantValue := 0 }, { name := "PI", type := .double, accessFlags := 25, slot := 1, constantValue := 0 }, { name := "TAU", type := .double, accessFlags := 25, slot := 2, constantValue := 0 }, { name := "DEGREES_TO_RADIANS", type := .double, accessFlags := 26, slot := 3, constantValue := 0 }, { name := "RADIANS_TO_DEGREES", type := .double, accessFlags := 26, slot := 4, constantValue := 0 }, { name := "negativeZeroFloatBits", type := .long, accessFlags := 26, slot := 5, constantValue := 0 }, { name := "negativeZeroDoubleBits", type := .long, accessFlags := 26, slot := 6, constantValue := 0 }, { name := "twoToTheDoubleScaleUp", type := .double, accessFlags := 8, slot := 7, constantValue := 0 }, { name := "twoToTheDoubleScaleDown", type := .double, accessFlags := 8, slot := 8, constantValue := 0 }, { name := "$assertionsDisabled", type := .boolean, accessFlags := 4120, slot := 9, constantValue := 0 }]
  methods := #[k3m0, k3m1]
  instanceTypes := #[]
  staticTypes := #[.double, .double, .double, .double, .double, .long, .long, .double, .double, .boolean]
  resolved := Array.replicate 460 none
  statics := none }

def pool4 : Array CpInfo := pool [(1, .class_ 2), (0, u "java/io/Serializable"), (0, .class_ 4), (0, u "java/lang/Object")] 2

/-- java/io/Serializable -/
def k4 : Class := { plain "java/io/Serializable" (some 0) with
  accessFlags := 1537
  interfaces := #[]
  cf := some (fileOf pool4 1 #[] #[] 1537 3 #[] #[])
  fields := #[]
  methods := #[]
  instanceTypes := #[]
  staticTypes := #[]
  resolved := Array.replicate 7 none
  statics := none }

def pool5 : Array CpInfo := pool [(1, .methodref 2 3), (0, .class_ 4), (0, .nameAndType 5 6), (0, u "java/lang/Object"), (0, u "<init>"), (0, u "()V"), (1, .class_ 10), (1, u "java/lang/Number"), (2, .class_ 14), (0, u "java/io/Serializable"), (0, u "serialVersionUID"), (0, u "J")] 20

def k5c0 : Code := { maxStack := 1, maxLocals := 1, code := jdk_18_method_1_code, exceptionTable := #[], attributes := #[] }
def k5m0 : Method := { name := "<init>", desc := "()V", sig := { parameters := [], returnType := none }, accessFlags := 1, code := some k5c0 }
/-- java/lang/Number -/
def k5 : Class := { plain "java/lang/Number" (some 0) with
  accessFlags := 1057
  interfaces := #[4]
  cf := some (fileOf pool5 8 #[] #[{ accessFlags := 1, nameIndex := 5, descriptorIndex := 6, attributes := #[] }] 1057 2 #[13] #[{ accessFlags := 26, nameIndex := 15, descriptorIndex := 16, attributes := #[] }])
  fields := #[{ name := "serialVersionUID", type := .long, accessFlags := 26, slot := 0, constantValue := 0 }]
  methods := #[k5m0]
  instanceTypes := #[]
  staticTypes := #[.long]
  resolved := Array.replicate 37 none
  statics := none }

def pool6 : Array CpInfo := pool [(1, .class_ 2), (0, u "java/lang/Comparable"), (0, .class_ 4), (0, u "java/lang/Object")] 7

/-- java/lang/Comparable -/
def k6 : Class := { plain "java/lang/Comparable" (some 0) with
  accessFlags := 1537
  interfaces := #[]
  cf := some (fileOf pool6 1 #[] #[] 1537 3 #[] #[])
  fields := #[]
  methods := #[]
  instanceTypes := #[]
  staticTypes := #[]
  resolved := Array.replicate 12 none
  statics := none }

def pool7 : Array CpInfo := pool [(1, .class_ 2), (0, u "java/lang/constant/Constable"), (0, .class_ 4), (0, u "java/lang/Object")] 6

/-- java/lang/constant/Constable -/
def k7 : Class := { plain "java/lang/constant/Constable" (some 0) with
  accessFlags := 1537
  interfaces := #[]
  cf := some (fileOf pool7 1 #[] #[] 1537 3 #[] #[])
  fields := #[]
  methods := #[]
  instanceTypes := #[]
  staticTypes := #[]
  resolved := Array.replicate 11 none
  statics := none }

def pool8 : Array CpInfo := pool [(1, .class_ 2), (0, u "java/lang/constant/ConstantDesc"), (0, .class_ 4), (0, u "java/lang/Object")] 32

/-- java/lang/constant/ConstantDesc -/
def k8 : Class := { plain "java/lang/constant/ConstantDesc" (some 0) with
  accessFlags := 1537
  interfaces := #[]
  cf := some (fileOf pool8 1 #[] #[] 1537 3 #[] #[])
  fields := #[]
  methods := #[]
  instanceTypes := #[]
  staticTypes := #[]
  resolved := Array.replicate 37 none
  statics := none }

def pool9 : Array CpInfo := pool [(1, .class_ 2), (0, u "java/lang/Integer"), (16, u "digits"), (0, u "[C"), (46, u "<init>"), (17, u "DigitOnes"), (0, u "[B"), (2, u "DigitTens"), (10, .nameAndType 67 101), (0, u "()V"), (85, u "valueOf"), (0, u "(I)Ljava/lang/Integer;"), (0, .class_ 190), (0, u "java/lang/Integer$IntegerCache"), (0, .fieldref 189 192), (0, .nameAndType 193 194), (0, u "high"), (0, u "I"), (0, .fieldref 189 196), (0, .nameAndType 197 198), (0, u "cache"), (0, u "[Ljava/lang/Integer;"), (0, .methodref 1 200), (0, .nameAndType 67 201), (0, u "(I)V"), (0, .methodref 203 100), (0, .class_ 204), (0, u "java/lang/Number"), (0, .fieldref 1 206), (0, .nameAndType 207 194), (0, u "value"), (94, u "TYPE"), (0, u "Ljava/lang/Class;"), (0, .class_ 305), (0, u "java/lang/Comparable"), (0, .class_ 307), (0, u "java/lang/constant/Constable"), (0, .class_ 309), (0, u "java/lang/constant/ConstantDesc"), (0, u "MIN_VALUE"), (1, u "MAX_VALUE"), (3, u "SIZE"), (1, u "BYTES"), (1, u "serialVersionUID"), (0, u "J")] 131

def k9c0 : Code := { maxStack := 3, maxLocals := 1, code := jdk_33_method_22_code, exceptionTable := #[], attributes := #[] }
def k9m0 : Method := { name := "valueOf", desc := "(I)Ljava/lang/Integer;", sig := { parameters := [.int], returnType := some (.object "java/lang/Integer") }, accessFlags := 9, code := some k9c0 }
def k9c1 : Code := { maxStack := 2, maxLocals := 2, code := jdk_33_method_23_code, exceptionTable := #[], attributes := #[] }
def k9m1 : Method := { name := "<init>", desc := "(I)V", sig := { parameters := [.int], returnType := none }, accessFlags := 1, code := some k9c1 }
/-- java/lang/Integer -/
def k9 : Class := { plain "java/lang/Integer" (some 5) with
  accessFlags := 49
  interfaces := #[6, 7, 8]
  cf := some (fileOf pool9 1 #[.nestMembers #[189]] #[{ accessFlags := 9, nameIndex := 187, descriptorIndex := 188, attributes := #[] }, { accessFlags := 1, nameIndex := 67, descriptorIndex := 201, attributes := #[] }] 49 203 #[304, 306, 308] #[{ accessFlags := 25, nameIndex := 310, descriptorIndex := 194, attributes := #[] }, { accessFlags := 25, nameIndex := 312, descriptorIndex := 194, attributes := #[] }, { accessFlags := 25, nameIndex := 302, descriptorIndex := 303, attributes := #[] }, { accessFlags := 24, nameIndex := 19, descriptorIndex := 20, attributes := #[] }, { accessFlags := 24, nameIndex := 89, descriptorIndex := 86, attributes := #[] }, { accessFlags := 24, nameIndex := 85, descriptorIndex := 86, attributes := #[] }, { accessFlags := 18, nameIndex := 207, descriptorIndex := 194, attributes := #[] }, { accessFlags := 25, nameIndex := 316, descriptorIndex := 194, attributes := #[] }, { accessFlags := 25, nameIndex := 318, descriptorIndex := 194, attributes := #[] }, { accessFlags := 26, nameIndex := 320, descriptorIndex := 321, attributes := #[] }])
  fields := #[{ name := "MIN_VALUE", type := .int, accessFlags := 25, slot := 0, constantValue := 0 }, { name := "MAX_VALUE", type := .int, accessFlags := 25, slot := 1, constantValue := 0 }, { name := "TYPE", type := (.object "java/lang/Class"), accessFlags := 25, slot := 2, constantValue := 0 }, { name := "digits", type := (.array .char), accessFlags := 24, slot := 3, constantValue := 0 }, { name := "DigitTens", type := (.array .byte), accessFlags := 24, slot := 4, constantValue := 0 }, { name := "DigitOnes", type := (.array .byte), accessFlags := 24, slot := 5, constantValue := 0 }, { name := "value", type := .int, accessFlags := 18, slot := 0, constantValue := 0 }, { name := "SIZE", type := .int, accessFlags := 25, slot := 6, constantValue := 0 }, { name := "BYTES", type := .int, accessFlags := 25, slot := 7, constantValue := 0 }, { name := "serialVersionUID", type := .long, accessFlags := 26, slot := 8, constantValue := 0 }]
  methods := #[k9m0, k9m1]
  instanceTypes := #[.int]
  staticTypes := #[.int, .int, (.object "java/lang/Class"), (.array .char), (.array .byte), (.array .byte), .int, .int, .long]
  resolved := Array.replicate 453 none
  statics := none }

def pool10 : Array CpInfo := pool [(2, .class_ 4), (1, u "java/lang/Object"), (0, u "<init>"), (0, u "()V"), (0, .class_ 8), (0, u "java/lang/Integer"), (7, .class_ 18), (1, u "java/lang/Integer$IntegerCache"), (0, u "$assertionsDisabled"), (0, u "Z"), (26, u "high"), (0, u "I"), (8, u "archivedCache"), (0, u "[Ljava/lang/Integer;"), (12, u "cache"), (0, u "low")] 27

def k10m0 : Method := { name := "<init>", desc := "()V", sig := { parameters := [], returnType := none }, accessFlags := 2, code := none }
/-- java/lang/Integer$IntegerCache -/
def k10 : Class := { plain "java/lang/Integer$IntegerCache" (some 0) with
  accessFlags := 48
  interfaces := #[]
  cf := some (fileOf pool10 16 #[.nestHost 7] #[{ accessFlags := 2, nameIndex := 5, descriptorIndex := 6, attributes := #[] }] 48 2 #[] #[{ accessFlags := 24, nameIndex := 72, descriptorIndex := 48, attributes := #[] }, { accessFlags := 24, nameIndex := 47, descriptorIndex := 48, attributes := #[] }, { accessFlags := 24, nameIndex := 71, descriptorIndex := 58, attributes := #[] }, { accessFlags := 8, nameIndex := 57, descriptorIndex := 58, attributes := #[] }, { accessFlags := 4120, nameIndex := 19, descriptorIndex := 20, attributes := #[] }])
  fields := #[{ name := "low", type := .int, accessFlags := 24, slot := 0, constantValue := 0 }, { name := "high", type := .int, accessFlags := 24, slot := 1, constantValue := 0 }, { name := "cache", type := (.array (.object "java/lang/Integer")), accessFlags := 24, slot := 2, constantValue := 0 }, { name := "archivedCache", type := (.array (.object "java/lang/Integer")), accessFlags := 8, slot := 3, constantValue := 0 }, { name := "$assertionsDisabled", type := .boolean, accessFlags := 4120, slot := 4, constantValue := 0 }]
  methods := #[k10m0]
  instanceTypes := #[]
  staticTypes := #[.int, .int, (.array (.object "java/lang/Integer")), (.array (.object "java/lang/Integer")), .boolean]
  resolved := Array.replicate 100 none
  statics := some 0 }

def pool11 : Array CpInfo := pool [(1, u "java/lang/Cloneable"), (0, .class_ 1), (0, u "java/lang/Object"), (0, .class_ 3)] 3

/-- java/lang/Cloneable -/
def k11 : Class := { plain "java/lang/Cloneable" (some 0) with
  accessFlags := 1537
  interfaces := #[]
  cf := some (fileOf pool11 2 #[] #[] 1537 4 #[] #[])
  fields := #[]
  methods := #[]
  instanceTypes := #[]
  staticTypes := #[]
  resolved := Array.replicate 8 none
  statics := none }

/-- the primitive byte -/
def k12 : Class := { plain "byte" none with kind := .primitive 'B', accessFlags := 0x411 }
/-- [B -/
def k13 : Class := { plain "[B" (some 0) with kind := .array 12 .byte, interfaces := #[11, 4], accessFlags := 1041 }

/-- the primitive int -/
def k14 : Class := { plain "int" none with kind := .primitive 'I', accessFlags := 0x411 }
/-- [I -/
def k15 : Class := { plain "[I" (some 0) with kind := .array 14 .int, interfaces := #[11, 4], accessFlags := 1041 }

/-- [Ljava/lang/Integer; -/
def k16 : Class := { plain "[Ljava/lang/Integer;" (some 0) with kind := .array 9 (.object "java/lang/Integer"), interfaces := #[11, 4], accessFlags := 1041 }

def heap : Heap := #[{ cls := 10, slots := #[.int 0, .int 127, .ref 1, .null, .int 0], vm := .statics 10 },
  { cls := 16, slots := #[.ref 2, .ref 3, .ref 4, .ref 5, .ref 6, .ref 7, .ref 8, .ref 9, .ref 10, .ref 11, .ref 12, .ref 13, .ref 14, .ref 15, .ref 16, .ref 17, .ref 18, .ref 19, .ref 20, .ref 21, .ref 22, .ref 23, .ref 24, .ref 25, .ref 26, .ref 27, .ref 28, .ref 29, .ref 30, .ref 31, .ref 32, .ref 33, .ref 34, .ref 35, .ref 36, .ref 37, .ref 38, .ref 39, .ref 40, .ref 41, .ref 42, .ref 43, .ref 44, .ref 45, .ref 46, .ref 47, .ref 48, .ref 49, .ref 50, .ref 51, .ref 52, .ref 53, .ref 54, .ref 55, .ref 56, .ref 57, .ref 58, .ref 59, .ref 60, .ref 61, .ref 62, .ref 63, .ref 64, .ref 65, .ref 66, .ref 67, .ref 68, .ref 69, .ref 70, .ref 71, .ref 72, .ref 73, .ref 74, .ref 75, .ref 76, .ref 77, .ref 78, .ref 79, .ref 80, .ref 81, .ref 82, .ref 83, .ref 84, .ref 85, .ref 86, .ref 87, .ref 88, .ref 89, .ref 90, .ref 91, .ref 92, .ref 93, .ref 94, .ref 95, .ref 96, .ref 97, .ref 98, .ref 99, .ref 100, .ref 101, .ref 102, .ref 103, .ref 104, .ref 105, .ref 106, .ref 107, .ref 108, .ref 109, .ref 110, .ref 111, .ref 112, .ref 113, .ref 114, .ref 115, .ref 116, .ref 117, .ref 118, .ref 119, .ref 120, .ref 121, .ref 122, .ref 123, .ref 124, .ref 125, .ref 126, .ref 127, .ref 128, .ref 129, .ref 130, .ref 131, .ref 132, .ref 133, .ref 134, .ref 135, .ref 136, .ref 137, .ref 138, .ref 139, .ref 140, .ref 141, .ref 142, .ref 143, .ref 144, .ref 145, .ref 146, .ref 147, .ref 148, .ref 149, .ref 150, .ref 151, .ref 152, .ref 153, .ref 154, .ref 155, .ref 156, .ref 157, .ref 158, .ref 159, .ref 160, .ref 161, .ref 162, .ref 163, .ref 164, .ref 165, .ref 166, .ref 167, .ref 168, .ref 169, .ref 170, .ref 171, .ref 172, .ref 173, .ref 174, .ref 175, .ref 176, .ref 177, .ref 178, .ref 179, .ref 180, .ref 181, .ref 182, .ref 183, .ref 184, .ref 185, .ref 186, .ref 187, .ref 188, .ref 189, .ref 190, .ref 191, .ref 192, .ref 193, .ref 194, .ref 195, .ref 196, .ref 197, .ref 198, .ref 199, .ref 200, .ref 201, .ref 202, .ref 203, .ref 204, .ref 205, .ref 206, .ref 207, .ref 208, .ref 209, .ref 210, .ref 211, .ref 212, .ref 213, .ref 214, .ref 215, .ref 216, .ref 217, .ref 218, .ref 219, .ref 220, .ref 221, .ref 222, .ref 223, .ref 224, .ref 225, .ref 226, .ref 227, .ref 228, .ref 229, .ref 230, .ref 231, .ref 232, .ref 233, .ref 234, .ref 235, .ref 236, .ref 237, .ref 238, .ref 239, .ref 240, .ref 241, .ref 242, .ref 243, .ref 244, .ref 245, .ref 246, .ref 247, .ref 248, .ref 249, .ref 250, .ref 251, .ref 252, .ref 253, .ref 254, .ref 255, .ref 256, .ref 257], vm := .none },
  { cls := 9, slots := #[.int (-128)], vm := .none },
  { cls := 9, slots := #[.int (-127)], vm := .none },
  { cls := 9, slots := #[.int (-126)], vm := .none },
  { cls := 9, slots := #[.int (-125)], vm := .none },
  { cls := 9, slots := #[.int (-124)], vm := .none },
  { cls := 9, slots := #[.int (-123)], vm := .none },
  { cls := 9, slots := #[.int (-122)], vm := .none },
  { cls := 9, slots := #[.int (-121)], vm := .none },
  { cls := 9, slots := #[.int (-120)], vm := .none },
  { cls := 9, slots := #[.int (-119)], vm := .none },
  { cls := 9, slots := #[.int (-118)], vm := .none },
  { cls := 9, slots := #[.int (-117)], vm := .none },
  { cls := 9, slots := #[.int (-116)], vm := .none },
  { cls := 9, slots := #[.int (-115)], vm := .none },
  { cls := 9, slots := #[.int (-114)], vm := .none },
  { cls := 9, slots := #[.int (-113)], vm := .none },
  { cls := 9, slots := #[.int (-112)], vm := .none },
  { cls := 9, slots := #[.int (-111)], vm := .none },
  { cls := 9, slots := #[.int (-110)], vm := .none },
  { cls := 9, slots := #[.int (-109)], vm := .none },
  { cls := 9, slots := #[.int (-108)], vm := .none },
  { cls := 9, slots := #[.int (-107)], vm := .none },
  { cls := 9, slots := #[.int (-106)], vm := .none },
  { cls := 9, slots := #[.int (-105)], vm := .none },
  { cls := 9, slots := #[.int (-104)], vm := .none },
  { cls := 9, slots := #[.int (-103)], vm := .none },
  { cls := 9, slots := #[.int (-102)], vm := .none },
  { cls := 9, slots := #[.int (-101)], vm := .none },
  { cls := 9, slots := #[.int (-100)], vm := .none },
  { cls := 9, slots := #[.int (-99)], vm := .none },
  { cls := 9, slots := #[.int (-98)], vm := .none },
  { cls := 9, slots := #[.int (-97)], vm := .none },
  { cls := 9, slots := #[.int (-96)], vm := .none },
  { cls := 9, slots := #[.int (-95)], vm := .none },
  { cls := 9, slots := #[.int (-94)], vm := .none },
  { cls := 9, slots := #[.int (-93)], vm := .none },
  { cls := 9, slots := #[.int (-92)], vm := .none },
  { cls := 9, slots := #[.int (-91)], vm := .none },
  { cls := 9, slots := #[.int (-90)], vm := .none },
  { cls := 9, slots := #[.int (-89)], vm := .none },
  { cls := 9, slots := #[.int (-88)], vm := .none },
  { cls := 9, slots := #[.int (-87)], vm := .none },
  { cls := 9, slots := #[.int (-86)], vm := .none },
  { cls := 9, slots := #[.int (-85)], vm := .none },
  { cls := 9, slots := #[.int (-84)], vm := .none },
  { cls := 9, slots := #[.int (-83)], vm := .none },
  { cls := 9, slots := #[.int (-82)], vm := .none },
  { cls := 9, slots := #[.int (-81)], vm := .none },
  { cls := 9, slots := #[.int (-80)], vm := .none },
  { cls := 9, slots := #[.int (-79)], vm := .none },
  { cls := 9, slots := #[.int (-78)], vm := .none },
  { cls := 9, slots := #[.int (-77)], vm := .none },
  { cls := 9, slots := #[.int (-76)], vm := .none },
  { cls := 9, slots := #[.int (-75)], vm := .none },
  { cls := 9, slots := #[.int (-74)], vm := .none },
  { cls := 9, slots := #[.int (-73)], vm := .none },
  { cls := 9, slots := #[.int (-72)], vm := .none },
  { cls := 9, slots := #[.int (-71)], vm := .none },
  { cls := 9, slots := #[.int (-70)], vm := .none },
  { cls := 9, slots := #[.int (-69)], vm := .none },
  { cls := 9, slots := #[.int (-68)], vm := .none },
  { cls := 9, slots := #[.int (-67)], vm := .none },
  { cls := 9, slots := #[.int (-66)], vm := .none },
  { cls := 9, slots := #[.int (-65)], vm := .none },
  { cls := 9, slots := #[.int (-64)], vm := .none },
  { cls := 9, slots := #[.int (-63)], vm := .none },
  { cls := 9, slots := #[.int (-62)], vm := .none },
  { cls := 9, slots := #[.int (-61)], vm := .none },
  { cls := 9, slots := #[.int (-60)], vm := .none },
  { cls := 9, slots := #[.int (-59)], vm := .none },
  { cls := 9, slots := #[.int (-58)], vm := .none },
  { cls := 9, slots := #[.int (-57)], vm := .none },
  { cls := 9, slots := #[.int (-56)], vm := .none },
  { cls := 9, slots := #[.int (-55)], vm := .none },
  { cls := 9, slots := #[.int (-54)], vm := .none },
  { cls := 9, slots := #[.int (-53)], vm := .none },
  { cls := 9, slots := #[.int (-52)], vm := .none },
  { cls := 9, slots := #[.int (-51)], vm := .none },
  { cls := 9, slots := #[.int (-50)], vm := .none },
  { cls := 9, slots := #[.int (-49)], vm := .none },
  { cls := 9, slots := #[.int (-48)], vm := .none },
  { cls := 9, slots := #[.int (-47)], vm := .none },
  { cls := 9, slots := #[.int (-46)], vm := .none },
  { cls := 9, slots := #[.int (-45)], vm := .none },
  { cls := 9, slots := #[.int (-44)], vm := .none },
  { cls := 9, slots := #[.int (-43)], vm := .none },
  { cls := 9, slots := #[.int (-42)], vm := .none },
  { cls := 9, slots := #[.int (-41)], vm := .none },
  { cls := 9, slots := #[.int (-40)], vm := .none },
  { cls := 9, slots := #[.int (-39)], vm := .none },
  { cls := 9, slots := #[.int (-38)], vm := .none },
  { cls := 9, slots := #[.int (-37)], vm := .none },
  { cls := 9, slots := #[.int (-36)], vm := .none },
  { cls := 9, slots := #[.int (-35)], vm := .none },
  { cls := 9, slots := #[.int (-34)], vm := .none },
  { cls := 9, slots := #[.int (-33)], vm := .none },
  { cls := 9, slots := #[.int (-32)], vm := .none },
  { cls := 9, slots := #[.int (-31)], vm := .none },
  { cls := 9, slots := #[.int (-30)], vm := .none },
  { cls := 9, slots := #[.int (-29)], vm := .none },
  { cls := 9, slots := #[.int (-28)], vm := .none },
  { cls := 9, slots := #[.int (-27)], vm := .none },
  { cls := 9, slots := #[.int (-26)], vm := .none },
  { cls := 9, slots := #[.int (-25)], vm := .none },
  { cls := 9, slots := #[.int (-24)], vm := .none },
  { cls := 9, slots := #[.int (-23)], vm := .none },
  { cls := 9, slots := #[.int (-22)], vm := .none },
  { cls := 9, slots := #[.int (-21)], vm := .none },
  { cls := 9, slots := #[.int (-20)], vm := .none },
  { cls := 9, slots := #[.int (-19)], vm := .none },
  { cls := 9, slots := #[.int (-18)], vm := .none },
  { cls := 9, slots := #[.int (-17)], vm := .none },
  { cls := 9, slots := #[.int (-16)], vm := .none },
  { cls := 9, slots := #[.int (-15)], vm := .none },
  { cls := 9, slots := #[.int (-14)], vm := .none },
  { cls := 9, slots := #[.int (-13)], vm := .none },
  { cls := 9, slots := #[.int (-12)], vm := .none },
  { cls := 9, slots := #[.int (-11)], vm := .none },
  { cls := 9, slots := #[.int (-10)], vm := .none },
  { cls := 9, slots := #[.int (-9)], vm := .none },
  { cls := 9, slots := #[.int (-8)], vm := .none },
  { cls := 9, slots := #[.int (-7)], vm := .none },
  { cls := 9, slots := #[.int (-6)], vm := .none },
  { cls := 9, slots := #[.int (-5)], vm := .none },
  { cls := 9, slots := #[.int (-4)], vm := .none },
  { cls := 9, slots := #[.int (-3)], vm := .none },
  { cls := 9, slots := #[.int (-2)], vm := .none },
  { cls := 9, slots := #[.int (-1)], vm := .none },
  { cls := 9, slots := #[.int 0], vm := .none },
  { cls := 9, slots := #[.int 1], vm := .none },
  { cls := 9, slots := #[.int 2], vm := .none },
  { cls := 9, slots := #[.int 3], vm := .none },
  { cls := 9, slots := #[.int 4], vm := .none },
  { cls := 9, slots := #[.int 5], vm := .none },
  { cls := 9, slots := #[.int 6], vm := .none },
  { cls := 9, slots := #[.int 7], vm := .none },
  { cls := 9, slots := #[.int 8], vm := .none },
  { cls := 9, slots := #[.int 9], vm := .none },
  { cls := 9, slots := #[.int 10], vm := .none },
  { cls := 9, slots := #[.int 11], vm := .none },
  { cls := 9, slots := #[.int 12], vm := .none },
  { cls := 9, slots := #[.int 13], vm := .none },
  { cls := 9, slots := #[.int 14], vm := .none },
  { cls := 9, slots := #[.int 15], vm := .none },
  { cls := 9, slots := #[.int 16], vm := .none },
  { cls := 9, slots := #[.int 17], vm := .none },
  { cls := 9, slots := #[.int 18], vm := .none },
  { cls := 9, slots := #[.int 19], vm := .none },
  { cls := 9, slots := #[.int 20], vm := .none },
  { cls := 9, slots := #[.int 21], vm := .none },
  { cls := 9, slots := #[.int 22], vm := .none },
  { cls := 9, slots := #[.int 23], vm := .none },
  { cls := 9, slots := #[.int 24], vm := .none },
  { cls := 9, slots := #[.int 25], vm := .none },
  { cls := 9, slots := #[.int 26], vm := .none },
  { cls := 9, slots := #[.int 27], vm := .none },
  { cls := 9, slots := #[.int 28], vm := .none },
  { cls := 9, slots := #[.int 29], vm := .none },
  { cls := 9, slots := #[.int 30], vm := .none },
  { cls := 9, slots := #[.int 31], vm := .none },
  { cls := 9, slots := #[.int 32], vm := .none },
  { cls := 9, slots := #[.int 33], vm := .none },
  { cls := 9, slots := #[.int 34], vm := .none },
  { cls := 9, slots := #[.int 35], vm := .none },
  { cls := 9, slots := #[.int 36], vm := .none },
  { cls := 9, slots := #[.int 37], vm := .none },
  { cls := 9, slots := #[.int 38], vm := .none },
  { cls := 9, slots := #[.int 39], vm := .none },
  { cls := 9, slots := #[.int 40], vm := .none },
  { cls := 9, slots := #[.int 41], vm := .none },
  { cls := 9, slots := #[.int 42], vm := .none },
  { cls := 9, slots := #[.int 43], vm := .none },
  { cls := 9, slots := #[.int 44], vm := .none },
  { cls := 9, slots := #[.int 45], vm := .none },
  { cls := 9, slots := #[.int 46], vm := .none },
  { cls := 9, slots := #[.int 47], vm := .none },
  { cls := 9, slots := #[.int 48], vm := .none },
  { cls := 9, slots := #[.int 49], vm := .none },
  { cls := 9, slots := #[.int 50], vm := .none },
  { cls := 9, slots := #[.int 51], vm := .none },
  { cls := 9, slots := #[.int 52], vm := .none },
  { cls := 9, slots := #[.int 53], vm := .none },
  { cls := 9, slots := #[.int 54], vm := .none },
  { cls := 9, slots := #[.int 55], vm := .none },
  { cls := 9, slots := #[.int 56], vm := .none },
  { cls := 9, slots := #[.int 57], vm := .none },
  { cls := 9, slots := #[.int 58], vm := .none },
  { cls := 9, slots := #[.int 59], vm := .none },
  { cls := 9, slots := #[.int 60], vm := .none },
  { cls := 9, slots := #[.int 61], vm := .none },
  { cls := 9, slots := #[.int 62], vm := .none },
  { cls := 9, slots := #[.int 63], vm := .none },
  { cls := 9, slots := #[.int 64], vm := .none },
  { cls := 9, slots := #[.int 65], vm := .none },
  { cls := 9, slots := #[.int 66], vm := .none },
  { cls := 9, slots := #[.int 67], vm := .none },
  { cls := 9, slots := #[.int 68], vm := .none },
  { cls := 9, slots := #[.int 69], vm := .none },
  { cls := 9, slots := #[.int 70], vm := .none },
  { cls := 9, slots := #[.int 71], vm := .none },
  { cls := 9, slots := #[.int 72], vm := .none },
  { cls := 9, slots := #[.int 73], vm := .none },
  { cls := 9, slots := #[.int 74], vm := .none },
  { cls := 9, slots := #[.int 75], vm := .none },
  { cls := 9, slots := #[.int 76], vm := .none },
  { cls := 9, slots := #[.int 77], vm := .none },
  { cls := 9, slots := #[.int 78], vm := .none },
  { cls := 9, slots := #[.int 79], vm := .none },
  { cls := 9, slots := #[.int 80], vm := .none },
  { cls := 9, slots := #[.int 81], vm := .none },
  { cls := 9, slots := #[.int 82], vm := .none },
  { cls := 9, slots := #[.int 83], vm := .none },
  { cls := 9, slots := #[.int 84], vm := .none },
  { cls := 9, slots := #[.int 85], vm := .none },
  { cls := 9, slots := #[.int 86], vm := .none },
  { cls := 9, slots := #[.int 87], vm := .none },
  { cls := 9, slots := #[.int 88], vm := .none },
  { cls := 9, slots := #[.int 89], vm := .none },
  { cls := 9, slots := #[.int 90], vm := .none },
  { cls := 9, slots := #[.int 91], vm := .none },
  { cls := 9, slots := #[.int 92], vm := .none },
  { cls := 9, slots := #[.int 93], vm := .none },
  { cls := 9, slots := #[.int 94], vm := .none },
  { cls := 9, slots := #[.int 95], vm := .none },
  { cls := 9, slots := #[.int 96], vm := .none },
  { cls := 9, slots := #[.int 97], vm := .none },
  { cls := 9, slots := #[.int 98], vm := .none },
  { cls := 9, slots := #[.int 99], vm := .none },
  { cls := 9, slots := #[.int 100], vm := .none },
  { cls := 9, slots := #[.int 101], vm := .none },
  { cls := 9, slots := #[.int 102], vm := .none },
  { cls := 9, slots := #[.int 103], vm := .none },
  { cls := 9, slots := #[.int 104], vm := .none },
  { cls := 9, slots := #[.int 105], vm := .none },
  { cls := 9, slots := #[.int 106], vm := .none },
  { cls := 9, slots := #[.int 107], vm := .none },
  { cls := 9, slots := #[.int 108], vm := .none },
  { cls := 9, slots := #[.int 109], vm := .none },
  { cls := 9, slots := #[.int 110], vm := .none },
  { cls := 9, slots := #[.int 111], vm := .none },
  { cls := 9, slots := #[.int 112], vm := .none },
  { cls := 9, slots := #[.int 113], vm := .none },
  { cls := 9, slots := #[.int 114], vm := .none },
  { cls := 9, slots := #[.int 115], vm := .none },
  { cls := 9, slots := #[.int 116], vm := .none },
  { cls := 9, slots := #[.int 117], vm := .none },
  { cls := 9, slots := #[.int 118], vm := .none },
  { cls := 9, slots := #[.int 119], vm := .none },
  { cls := 9, slots := #[.int 120], vm := .none },
  { cls := 9, slots := #[.int 121], vm := .none },
  { cls := 9, slots := #[.int 122], vm := .none },
  { cls := 9, slots := #[.int 123], vm := .none },
  { cls := 9, slots := #[.int 124], vm := .none },
  { cls := 9, slots := #[.int 125], vm := .none },
  { cls := 9, slots := #[.int 126], vm := .none },
  { cls := 9, slots := #[.int 127], vm := .none }]
def classes : Array Class := #[k0, k1, k2, k3, k4, k5, k6, k7, k8, k9, k10, k11, k12, k13, k14, k15, k16]
def interned : List (Array UInt16 × Addr) := []
def slotsUsed : Nat := 517
def theMethod : MethodId := ⟨1, 1⟩
def args0 : Array Value := #[.int 0, .int 1, .int 2, .int 3, .int 4, .int 5]
def aboutOver (below : List Frame) : State where
  vm := { classes := classes, interned := interned.toArray }
  heap := heap
  slotsUsed := slotsUsed
  threads := #[{ frames := .invoking theMethod args0 :: below }]
def below0 : List Frame := [.native { method := ⟨0, 0⟩, args := #[] }]
def about1 : State := aboutOver below0
def p0 : Program := .bare "" "" ""
def e0 : Env := launch0.env 0 0 0
theorem w_frames : about1.frames = Frame.invoking theMethod args0 :: below0 := rfl
set_option maxRecDepth 65536 in
theorem w_args : argsFit about1.vm theMethod args0 = true := by decide +kernel
set_option maxRecDepth 65536 in
theorem w_heap : heapFits about1 = true := by decide +kernel
set_option maxRecDepth 65536 in
theorem w_runnable : about1.curStatus? = some .runnable := by decide +kernel
set_option maxRecDepth 65536 in
theorem w_alone : about1.alone = true := by decide +kernel
set_option maxRecDepth 65536 in
theorem w_named : about1.methodNamed? x = some theMethod := by decide +kernel
set_option maxRecDepth 65536 in
theorem w_hears : about1.hears theMethod below0 = true := by decide +kernel
set_option maxRecDepth 65536 in
theorem w_ripe : about1.ripe theMethod args0 below0 = true := by decide +kernel
theorem w_running : about1.status = .running := rfl
set_option maxRecDepth 65536 in
theorem w_room : about1.hasRoom e0.platform room_1 = true :=
  launch0.hasRoom_least _ room_1 (by decide +kernel) (by decide +kernel) (by decide +kernel) (by decide +kernel) (by decide +kernel) (by decide +kernel)
theorem allAtoms_all (ts : List Jvm.Cond) (a : Array Jvm.Value) (st : Jvm.State) : (allAtoms ts).before a st = ts.all (fun c => c.before a st) := by
  induction ts with
  | nil => rfl
  | cons c t ih =>
    show (Jvm.Cond.and c (allAtoms t)).before a st = _
    rw [Jvm.Cond.before_and, ih, List.all_cons]
def words1 : List Jvm.Cond := Jvm.Cond.code x code maxLocals ret :: tables_1
/-- a 'code' word, met by the world's own term for the bytes: nothing is compared byte by byte -/
theorem code_word {y : MethodName} {bytes : ByteArray} {mx : Nat} {rt : Option FieldType} {a : Array Value} {s : State} {m : MethodId} {meth : Method} {c : Code} (h1 : s.methodNamed? y = some m) (h2 : s.vm.method? m = some meth) (h3 : meth.code = some c) (h4 : c.code = bytes)
    (h5 : (c.maxLocals == mx && c.exceptionTable.isEmpty && decide (c.maxStack ≤ mostOperands) && decide (meth.sig.returnType = rt) && !meth.locks && decide (parseMethodDescriptor y.desc = some meth.sig)) = true) : (Jvm.Cond.code y bytes mx rt).before a s = true := by
  simp only [Bool.and_eq_true, beq_iff_eq, Bool.not_eq_true', decide_eq_true_eq] at h5
  obtain ⟨⟨⟨⟨⟨g1, g2⟩, g3⟩, g4⟩, g5⟩, g6⟩ := h5
  simp [Cond.before, Cond.holds, Cond.value, h1, h2, h3, h4, g1, g2, g3, g4, g5, g6]
def isCode : Jvm.Cond → Bool
  | .code _ _ _ _ => true
  | _ => false
theorem all_split {L : List Jvm.Cond} {P : Jvm.Cond → Bool} (h1 : L.all (fun c => isCode c || P c) = true) (h2 : ∀ c ∈ L.filter isCode, P c = true) : L.all P = true := by
  refine List.all_eq_true.mpr fun c hc => ?_
  have h := List.all_eq_true.mp h1 c hc
  rcases Bool.eq_false_or_eq_true (isCode c) with hi | hi
  · exact h2 c (List.mem_filter.mpr ⟨hc, hi⟩)
  · simpa [hi] using h
set_option maxRecDepth 65536 in
theorem w_c0 : (Jvm.Cond.code x code maxLocals ret).before args0 about1 = true := code_word (m := ⟨1, 1⟩) (meth := k1m1) (c := k1c1) (by decide +kernel) rfl rfl rfl (by decide +kernel)
set_option maxRecDepth 65536 in
theorem w_c1 : (Jvm.Cond.code ({ cls := "com/example/godwit/godwit/StoreSettings", name := "<init>", desc := "(III)V" } : Jvm.MethodName) prog_19_method_1_code (4 : Nat) (Option.none : Option Jvm.ClassFile.FieldType)).before args0 about1 = true := code_word (m := ⟨2, 0⟩) (meth := k2m0) (c := k2c0) (by decide +kernel) rfl rfl rfl (by decide +kernel)
set_option maxRecDepth 65536 in
theorem w_c2 : (Jvm.Cond.code ({ cls := "java/lang/Object", name := "<init>", desc := "()V" } : Jvm.MethodName) object_method_1_code (1 : Nat) (Option.none : Option Jvm.ClassFile.FieldType)).before args0 about1 = true := code_word (m := ⟨0, 0⟩) (meth := k0m0) (c := k0c0) (by decide +kernel) rfl rfl rfl (by decide +kernel)
set_option maxRecDepth 65536 in
theorem w_c3 : (Jvm.Cond.code ({ cls := "com/example/godwit/godwit/StoreSettings", name := "equals", desc := "(Ljava/lang/Object;)Z" } : Jvm.MethodName) prog_19_method_6_code (3 : Nat) (Option.some Jvm.ClassFile.FieldType.boolean)).before args0 about1 = true := code_word (m := ⟨2, 1⟩) (meth := k2m1) (c := k2c1) (by decide +kernel) rfl rfl rfl (by decide +kernel)
set_option maxRecDepth 65536 in
theorem w_c4 : (Jvm.Cond.code ({ cls := "java/lang/Math", name := "max", desc := "(II)I" } : Jvm.MethodName) jdk_29_method_65_code (2 : Nat) (Option.some Jvm.ClassFile.FieldType.int)).before args0 about1 = true := code_word (m := ⟨3, 1⟩) (meth := k3m1) (c := k3c1) (by decide +kernel) rfl rfl rfl (by decide +kernel)
set_option maxRecDepth 65536 in
theorem w_c5 : (Jvm.Cond.code ({ cls := "java/lang/Integer", name := "valueOf", desc := "(I)Ljava/lang/Integer;" } : Jvm.MethodName) jdk_33_method_22_code (1 : Nat) (Option.some (Jvm.ClassFile.FieldType.object "java/lang/Integer"))).before args0 about1 = true := code_word (m := ⟨9, 0⟩) (meth := k9m0) (c := k9c0) (by decide +kernel) rfl rfl rfl (by decide +kernel)
set_option maxRecDepth 65536 in
theorem w_c6 : (Jvm.Cond.code ({ cls := "java/lang/Integer", name := "<init>", desc := "(I)V" } : Jvm.MethodName) jdk_33_method_23_code (2 : Nat) (Option.none : Option Jvm.ClassFile.FieldType)).before args0 about1 = true := code_word (m := ⟨9, 1⟩) (meth := k9m1) (c := k9c1) (by decide +kernel) rfl rfl rfl (by decide +kernel)
set_option maxRecDepth 65536 in
theorem w_c7 : (Jvm.Cond.code ({ cls := "java/lang/Number", name := "<init>", desc := "()V" } : Jvm.MethodName) jdk_18_method_1_code (1 : Nat) (Option.none : Option Jvm.ClassFile.FieldType)).before args0 about1 = true := code_word (m := ⟨5, 0⟩) (meth := k5m0) (c := k5c0) (by decide +kernel) rfl rfl rfl (by decide +kernel)
def codes1 : List Jvm.Cond := [Jvm.Cond.code x code maxLocals ret, Jvm.Cond.code ({ cls := "com/example/godwit/godwit/StoreSettings", name := "<init>", desc := "(III)V" } : Jvm.MethodName) prog_19_method_1_code (4 : Nat) (Option.none : Option Jvm.ClassFile.FieldType), Jvm.Cond.code ({ cls := "java/lang/Object", name := "<init>", desc := "()V" } : Jvm.MethodName) object_method_1_code (1 : Nat) (Option.none : Option Jvm.ClassFile.FieldType), Jvm.Cond.code ({ cls := "com/example/godwit/godwit/StoreSettings", name := "equals", desc := "(Ljava/lang/Object;)Z" } : Jvm.MethodName) prog_19_method_6_code (3 : Nat) (Option.some Jvm.ClassFile.FieldType.boolean), Jvm.Cond.code ({ cls := "java/lang/Math", name := "max", desc := "(II)I" } : Jvm.MethodName) jdk_29_method_65_code (2 : Nat) (Option.some Jvm.ClassFile.FieldType.int), Jvm.Cond.code ({ cls := "java/lang/Integer", name := "valueOf", desc := "(I)Ljava/lang/Integer;" } : Jvm.MethodName) jdk_33_method_22_code (1 : Nat) (Option.some (Jvm.ClassFile.FieldType.object "java/lang/Integer")), Jvm.Cond.code ({ cls := "java/lang/Integer", name := "<init>", desc := "(I)V" } : Jvm.MethodName) jdk_33_method_23_code (2 : Nat) (Option.none : Option Jvm.ClassFile.FieldType), Jvm.Cond.code ({ cls := "java/lang/Number", name := "<init>", desc := "()V" } : Jvm.MethodName) jdk_18_method_1_code (1 : Nat) (Option.none : Option Jvm.ClassFile.FieldType)]
set_option maxRecDepth 65536 in
theorem codes_eq : words1.filter isCode = codes1 := rfl
theorem w_codes : ∀ c ∈ words1.filter isCode, c.before args0 about1 = true := by
  rw [codes_eq]
  intro c hc
  simp only [codes1, List.mem_cons, List.not_mem_nil, or_false] at hc
  rcases hc with rfl | rfl | rfl | rfl | rfl | rfl | rfl | rfl
  · exact w_c0
  · exact w_c1
  · exact w_c2
  · exact w_c3
  · exact w_c4
  · exact w_c5
  · exact w_c6
  · exact w_c7
set_option maxRecDepth 65536 in
theorem w_t1 : (words1.take 24).all (fun c => isCode c || c.before args0 about1) = true := by decide +kernel
set_option maxRecDepth 65536 in
theorem w_t2 : ((words1.drop 24).take 24).all (fun c => isCode c || c.before args0 about1) = true := by decide +kernel
set_option maxRecDepth 65536 in
theorem w_t3 : ((words1.drop 24).drop 24).all (fun c => isCode c || c.before args0 about1) = true := by decide +kernel
theorem w_tables : (allAtoms (Jvm.Cond.code x code maxLocals ret :: tables_1)).before args0 about1 = true := by
  rw [allAtoms_all]
  show words1.all (fun c => c.before args0 about1) = true
  refine all_split ?_ w_codes
  rw [← List.take_append_drop 24 words1, List.all_append, w_t1, ← List.take_append_drop 24 (words1.drop 24), List.all_append, w_t2, w_t3]
  rfl
set_option maxRecDepth 65536 in
theorem w_rest : rest_1_c.before args0 about1 = true := by decide +kernel
set_option maxRecDepth 65536 in
theorem w_case : (Jvm.Cond.and given_1 narrow_1).before args0 about1 = true := by decide +kernel
theorem w_applies : (headSpec (Jvm.Cond.code x code maxLocals ret :: tables_1) room_1).applies x e0.platform about1 = true :=
  (Spec.applies_iff w_frames).mpr ⟨w_running, w_runnable, w_alone, w_named, w_hears, w_ripe, w_room, w_tables⟩
theorem atStart : AtStart classFile x code maxLocals ret World_1 tables_1 room_1 Calls_1 rest_1 Pre_1 launch0 p0 e0 about1 theMethod args0 below0 :=
  ⟨lists_1, trivial, launch0.admits_env _ _ _, launch0.least_env, fairChoices_fair.cas, fairChoices_fair.clock, w_frames, w_args, w_heap, w_applies, trivial, w_rest, w_case⟩
end start1
theorem witness_1 : WitnessClaimed_1 := ⟨start1.p0, start1.e0, start1.about1, start1.theMethod, start1.args0, start1.below0, start1.atStart⟩
end Jvm.Pilot.@@N@@
